import Derived.Test.YbulkcuegFmtIdx2
import Derived.Maps.OwnSet
import Derived.Maps.OwnOps
import Derived.DeepKeys4
namespace Go.Proofs.YbulkcuegFmt
open Go.RowKit Go.Maps

/-! ### the fifty combinations -/
def kd (q : Fin 50) : ByteArray := dig (q.val / 10)
def ka (q : Fin 50) : Int := ((q.val % 10 : Nat) : Int)
def nt (q : Fin 50) : Fin 5 := ⟨q.val / 10, by omega⟩
def mk (p a : Int) : Fin 50 := ⟨(p % 5).toNat * 10 + (a % 10).toNat, by omega⟩

theorem kd_nt (q : Fin 50) : kd q = dig (nt q).val := rfl
theorem nt_mk (p a : Int) : (nt (mk p a)).val = md5 p := by
  show ((p % 5).toNat * 10 + (a % 10).toNat) / 10 = (p % 5).toNat
  omega
theorem kd_mk (p a : Int) : dig (md5 p) = kd (mk p a) := by rw [kd_nt, nt_mk]
theorem ka_mk (p a : Int) : a % 10 = ka (mk p a) := by
  show _ = (((((p % 5).toNat * 10 + (a % 10).toNat) % 10 : Nat)) : Int)
  omega
theorem key_eq {q r : Fin 50} (h1 : nt q = nt r) (h2 : ka q = ka r) : q = r := by
  apply Fin.ext
  have e1 : q.val / 10 = r.val / 10 := congrArg Fin.val h1
  have e2 : ((q.val % 10 : Nat) : Int) = ((r.val % 10 : Nat) : Int) := h2
  omega

theorem eqk (q r : Fin 50) (w : World) : (binOp .eql 29 (.agg #[.string (kd q)]) (.agg #[.string (kd r)])).run Ybaf.prog w = .ok (.bool (decide (q.val / 10 = r.val / 10))) w := by
  rw [kd_nt, kd_nt, eq29]
  have : (nt q = nt r) ↔ (q.val / 10 = r.val / 10) := ⟨fun h => congrArg Fin.val h, fun h => Fin.ext h⟩
  simp [this]

theorem law60 : Keyed Ybaf.prog 60 := Keyed.of_law (deep_law_laid (m := 100) (by kernel_rfl) (by omega) (of_decide_eq_true (by kernel_rfl)) (by kernel_rfl) (by kernel_rfl))
theorem zero3 (w : World) : (zeroValue 3).run Ybaf.prog w = .ok (.int .i64 0) w := by kernel_rfl

/-- what a combination reads as, as a key -/
def kl (q : Fin 50) : Lit := .string (keyBytes [.string (kd q).data.toList, .int .u16 (ka q)])
theorem key60 : ∀ q : Fin 50, keyOf Ybaf.prog 60 (.agg #[.string (kd q), .int .u16 (ka q)]) = some (kl q)
  | ⟨0, _⟩ => by kernel_rfl
  | ⟨1, _⟩ => by kernel_rfl
  | ⟨2, _⟩ => by kernel_rfl
  | ⟨3, _⟩ => by kernel_rfl
  | ⟨4, _⟩ => by kernel_rfl
  | ⟨5, _⟩ => by kernel_rfl
  | ⟨6, _⟩ => by kernel_rfl
  | ⟨7, _⟩ => by kernel_rfl
  | ⟨8, _⟩ => by kernel_rfl
  | ⟨9, _⟩ => by kernel_rfl
  | ⟨10, _⟩ => by kernel_rfl
  | ⟨11, _⟩ => by kernel_rfl
  | ⟨12, _⟩ => by kernel_rfl
  | ⟨13, _⟩ => by kernel_rfl
  | ⟨14, _⟩ => by kernel_rfl
  | ⟨15, _⟩ => by kernel_rfl
  | ⟨16, _⟩ => by kernel_rfl
  | ⟨17, _⟩ => by kernel_rfl
  | ⟨18, _⟩ => by kernel_rfl
  | ⟨19, _⟩ => by kernel_rfl
  | ⟨20, _⟩ => by kernel_rfl
  | ⟨21, _⟩ => by kernel_rfl
  | ⟨22, _⟩ => by kernel_rfl
  | ⟨23, _⟩ => by kernel_rfl
  | ⟨24, _⟩ => by kernel_rfl
  | ⟨25, _⟩ => by kernel_rfl
  | ⟨26, _⟩ => by kernel_rfl
  | ⟨27, _⟩ => by kernel_rfl
  | ⟨28, _⟩ => by kernel_rfl
  | ⟨29, _⟩ => by kernel_rfl
  | ⟨30, _⟩ => by kernel_rfl
  | ⟨31, _⟩ => by kernel_rfl
  | ⟨32, _⟩ => by kernel_rfl
  | ⟨33, _⟩ => by kernel_rfl
  | ⟨34, _⟩ => by kernel_rfl
  | ⟨35, _⟩ => by kernel_rfl
  | ⟨36, _⟩ => by kernel_rfl
  | ⟨37, _⟩ => by kernel_rfl
  | ⟨38, _⟩ => by kernel_rfl
  | ⟨39, _⟩ => by kernel_rfl
  | ⟨40, _⟩ => by kernel_rfl
  | ⟨41, _⟩ => by kernel_rfl
  | ⟨42, _⟩ => by kernel_rfl
  | ⟨43, _⟩ => by kernel_rfl
  | ⟨44, _⟩ => by kernel_rfl
  | ⟨45, _⟩ => by kernel_rfl
  | ⟨46, _⟩ => by kernel_rfl
  | ⟨47, _⟩ => by kernel_rfl
  | ⟨48, _⟩ => by kernel_rfl
  | ⟨49, _⟩ => by kernel_rfl
  | ⟨n + 50, h⟩ => absurd h (by omega)
theorem kl_inj {q r : Fin 50} (h : kl q = kl r) : q = r := by
  have e := law60.inj (key60 q) ((key60 r).trans (by rw [h]))
  simp only [Value.agg.injEq] at e
  have e0 : [Value.string (kd q), .int .u16 (ka q)] = [Value.string (kd r), .int .u16 (ka r)] := congrArg Array.toList e
  simp only [List.cons.injEq, Value.string.injEq, Value.int.injEq, true_and, and_true] at e0
  obtain ⟨e1, e2⟩ := e0
  have e3 : q.val / 10 = r.val / 10 := by
    have h := dig_eq (nt q) (nt r)
    rw [kd_nt, kd_nt] at e1
    rw [e1] at h
    exact congrArg Fin.val (by simpa using h : nt q = nt r)
  have e4 : ((q.val % 10 : Nat) : Int) = ((r.val % 10 : Nat) : Int) := e2
  apply Fin.ext
  omega
theorem kl_key (q : Fin 50) : WideAt.IsKeyLit (kl q) := trivial

/-! ### the map of places -/
/-- the datum of the map when the combinations ks have been met -/
def dat {H : Type} (ks : List (Fin 50)) : DataW H := (List.range ks.length).foldl (fun D i => D.put (kl (ks.getD i 0)) (.lit (.int .i64 i))) (.map [])

theorem dat_nil {H : Type} : (dat [] : DataW H) = .map [] := rfl
theorem dat_snoc {H : Type} (ks : List (Fin 50)) (q : Fin 50) : (dat (ks ++ [q]) : DataW H) = (dat ks).put (kl q) (.lit (.int .i64 (ks.length : Nat))) := by
  unfold dat
  rw [List.length_append, List.length_singleton, List.range_succ, List.foldl_append]
  simp only [List.foldl_cons, List.foldl_nil]
  have e : (ks ++ [q]).getD ks.length 0 = q := by simp [List.getD]
  rw [e]
  congr 1
  have : ∀ (l : List Nat) (D : DataW H), (∀ i ∈ l, i < ks.length) → l.foldl (fun D i => D.put (kl ((ks ++ [q]).getD i 0)) (.lit (.int .i64 i))) D = l.foldl (fun D i => D.put (kl (ks.getD i 0)) (.lit (.int .i64 i))) D := by
    intro l
    induction l with
    | nil => intro D _; rfl
    | cons x l ih =>
      intro D hl
      simp only [List.foldl_cons]
      have hx := hl x (by simp)
      have e : (ks ++ [q]).getD x 0 = ks.getD x 0 := by simp [List.getD, List.getElem?_append_left hx]
      rw [e]
      exact ih _ (fun i hi => hl i (by simp [hi]))
  exact this _ _ (fun i hi => by simpa using hi)
theorem snoc_ind {p : List (Fin 50) → Prop} (h0 : p []) (h1 : ∀ l q, p l → p (l ++ [q])) (l : List (Fin 50)) : p l := by
  have : ∀ r : List (Fin 50), p r.reverse := by
    intro r
    induction r with
    | nil => exact h0
    | cons x r ih => simpa using h1 _ _ ih
  simpa using this l.reverse
theorem dat_isMap {H : Type} (ks : List (Fin 50)) : IsMap (dat ks : DataW H) := by
  refine snoc_ind (p := fun ks => IsMap (dat ks : DataW H)) isMap_empty (fun ks q ih => ?_) ks
  rw [dat_snoc]
  exact ih.put _ _

theorem dat_has {H : Type} (ks : List (Fin 50)) (q : Fin 50) : has (dat ks : DataW H) (kl q) = decide (q ∈ ks) := by
  refine snoc_ind (p := fun ks => has (dat ks : DataW H) (kl q) = decide (q ∈ ks)) rfl (fun ks r ih => ?_) ks
  rw [dat_snoc]
  by_cases h : q = r
  · subst h
    rw [has_put_same (dat_isMap ks) (kl_key q)]
    simp
  · rw [has_put_other (fun e => h (kl_inj e)), ih]
    simp [h]
theorem dat_at {H : Type} (ks : List (Fin 50)) (hn : ks.Nodup) (q : Fin 50) (hq : q ∈ ks) (z : DataW H) : (dat ks).atKey (kl q) z = .lit (.int .i64 (ks.idxOf q : Nat)) := by
  revert hn hq
  refine snoc_ind (p := fun ks => ks.Nodup → q ∈ ks → (dat ks).atKey (kl q) z = .lit (.int .i64 (ks.idxOf q : Nat))) (fun _ hq => by simp at hq) (fun ks r ih => ?_) ks
  intro hn hq
  rw [dat_snoc]
  by_cases h : q = r
  · subst h
    rw [atKey_put_same (dat_isMap ks) (kl_key q)]
    have : q ∉ ks := fun hm => (List.nodup_append.1 hn).2.2 q hm q (by simp) rfl
    rw [List.idxOf_append]
    simp [this]
  · rw [atKey_put_other (fun e => h (kl_inj e))]
    have hq' : q ∈ ks := by simpa [h] using hq
    rw [ih (List.nodup_append.1 hn).1 hq', List.idxOf_append]
    simp [hq']
end Go.Proofs.YbulkcuegFmt
