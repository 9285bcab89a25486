import Derived.Test.YbulkcuegLeaves
import Derived.Maps.OwnSet
import Derived.Maps.OwnOps
import Derived.DeepKeys4
namespace Go.Proofs.Ybulkcueg
open Go.RowKit Go.Maps

/-! ### the nine combinations -/
def kd (q : Fin 9) : ByteArray := if q.val / 3 = 0 then ⟨#[50, 48, 56, 48, 49]⟩ else if q.val / 3 = 1 then ⟨#[50, 48, 56, 49, 48]⟩ else ⟨#[51, 49, 48, 50, 54, 48]⟩
def ka (q : Fin 9) : Int := ((q.val % 3 : Nat) : Int)
def mk (p a : Int) : Fin 9 := ⟨(p % 3).toNat * 3 + (a % 3).toNat, by omega⟩

theorem kd_mk (p a : Int) : dig p = kd (mk p a) := by
  have h : (mk p a).val / 3 = (p % 3).toNat := by show ((p % 3).toNat * 3 + (a % 3).toNat) / 3 = _; omega
  unfold dig kd
  rw [h]
  by_cases h0 : p % 3 = 0
  · rw [if_pos h0, if_pos (by omega)]
  · by_cases h1 : p % 3 = 1
    · rw [if_neg h0, if_pos h1, if_neg (by omega), if_pos (by omega)]
    · rw [if_neg h0, if_neg h1, if_neg (by omega), if_neg (by omega)]
theorem ka_mk (p a : Int) : a % 3 = ka (mk p a) := by
  show _ = (((((p % 3).toNat * 3 + (a % 3).toNat) % 3 : Nat)) : Int)
  omega

theorem kd_eq : ∀ q r : Fin 9, decide ((kd q).data.toList = (kd r).data.toList) = decide (q.val / 3 = r.val / 3) := by decide

theorem eq31 (q r : Fin 9) (w : World) : (binOp .eql 31 (.agg #[.string (kd q)]) (.agg #[.string (kd r)])).run Yba.prog w = .ok (.bool (decide (q.val / 3 = r.val / 3))) w := by
  have h : ∀ a b : ByteArray, ∀ w, (binOp .eql 31 (.agg #[.string a]) (.agg #[.string b])).run Yba.prog w = .ok (.bool (decide (a.data.toList = b.data.toList))) w := fun a b w => by
    rw [← ByteArray.toList_eq, ← ByteArray.toList_eq]
    by_cases e : a.toList = b.toList <;> simp [go_sem, e]
  rw [h, kd_eq]

theorem law34 : Keyed Yba.prog 34 := Keyed.of_law (deep_law_laid (m := 100) (by kernel_rfl) (by omega) (of_decide_eq_true (by kernel_rfl)) (by kernel_rfl) (by kernel_rfl))
theorem zero3 (w : World) : (zeroValue 3).run Yba.prog w = .ok (.int .i64 0) w := by kernel_rfl

/-- what a combination reads as, as a key -/
def kl (q : Fin 9) : Lit := .string (keyBytes [.string (kd q).data.toList, .int .u16 (ka q)])
theorem key34 (q : Fin 9) : keyOf Yba.prog 34 (.agg #[.string (kd q), .int .u16 (ka q)]) = some (kl q) := by
  rcases q with ⟨_ | _ | _ | _ | _ | _ | _ | _ | _ | n, hn⟩
  · kernel_rfl
  · kernel_rfl
  · kernel_rfl
  · kernel_rfl
  · kernel_rfl
  · kernel_rfl
  · kernel_rfl
  · kernel_rfl
  · kernel_rfl
  · omega
theorem kl_inj {q r : Fin 9} (h : kl q = kl r) : q = r := by
  have e := law34.inj (key34 q) ((key34 r).trans (by rw [h]))
  simp only [Value.agg.injEq] at e
  have e0 : [Value.string (kd q), .int .u16 (ka q)] = [Value.string (kd r), .int .u16 (ka r)] := congrArg Array.toList e
  simp only [List.cons.injEq, Value.string.injEq, Value.int.injEq, true_and, and_true] at e0
  obtain ⟨e1, e2⟩ := e0
  have e3 : q.val / 3 = r.val / 3 := by
    have h := kd_eq q r
    rw [e1] at h
    simpa using h
  have e4 : ((q.val % 3 : Nat) : Int) = ((r.val % 3 : Nat) : Int) := e2
  apply Fin.ext
  omega
theorem kl_key (q : Fin 9) : WideAt.IsKeyLit (kl q) := trivial

/-! ### the map of places -/
/-- the datum of the map when the combinations ks have been met -/
def dat {H : Type} (ks : List (Fin 9)) : DataW H := (List.range ks.length).foldl (fun D i => D.put (kl (ks.getD i 0)) (.lit (.int .i64 i))) (.map [])

theorem dat_nil {H : Type} : (dat [] : DataW H) = .map [] := rfl
theorem dat_snoc {H : Type} (ks : List (Fin 9)) (q : Fin 9) : (dat (ks ++ [q]) : DataW H) = (dat ks).put (kl q) (.lit (.int .i64 (ks.length : Nat))) := by
  unfold dat
  rw [List.length_append, List.length_singleton, List.range_succ, List.foldl_append]
  simp only [List.foldl_cons, List.foldl_nil]
  have e : (ks ++ [q]).getD ks.length 0 = q := by simp [List.getD]
  rw [e]
  congr 1
  have : ∀ (l : List Nat) (D : DataW H), (∀ i ∈ l, i < ks.length) → l.foldl (fun D i => D.put (kl ((ks ++ [q]).getD i 0)) (.lit (.int .i64 i))) D = l.foldl (fun D i => D.put (kl (ks.getD i 0)) (.lit (.int .i64 i))) D := by
    intro l
    induction l with
    | nil => intro D _; rfl
    | cons x l ih =>
      intro D hl
      simp only [List.foldl_cons]
      have hx := hl x (by simp)
      have e : (ks ++ [q]).getD x 0 = ks.getD x 0 := by simp [List.getD, List.getElem?_append_left hx]
      rw [e]
      exact ih _ (fun i hi => hl i (by simp [hi]))
  exact this _ _ (fun i hi => by simpa using hi)
theorem snoc_ind {p : List (Fin 9) → Prop} (h0 : p []) (h1 : ∀ l q, p l → p (l ++ [q])) (l : List (Fin 9)) : p l := by
  have : ∀ r : List (Fin 9), p r.reverse := by
    intro r
    induction r with
    | nil => exact h0
    | cons x r ih => simpa using h1 _ _ ih
  simpa using this l.reverse
theorem dat_isMap {H : Type} (ks : List (Fin 9)) : IsMap (dat ks : DataW H) := by
  refine snoc_ind (p := fun ks => IsMap (dat ks : DataW H)) isMap_empty (fun ks q ih => ?_) ks
  rw [dat_snoc]
  exact ih.put _ _

theorem dat_has {H : Type} (ks : List (Fin 9)) (q : Fin 9) : has (dat ks : DataW H) (kl q) = decide (q ∈ ks) := by
  refine snoc_ind (p := fun ks => has (dat ks : DataW H) (kl q) = decide (q ∈ ks)) rfl (fun ks r ih => ?_) ks
  rw [dat_snoc]
  by_cases h : q = r
  · subst h
    rw [has_put_same (dat_isMap ks) (kl_key q)]
    simp
  · rw [has_put_other (fun e => h (kl_inj e)), ih]
    simp [h]
theorem dat_at {H : Type} (ks : List (Fin 9)) (hn : ks.Nodup) (q : Fin 9) (hq : q ∈ ks) (z : DataW H) : (dat ks).atKey (kl q) z = .lit (.int .i64 (ks.idxOf q : Nat)) := by
  revert hn hq
  refine snoc_ind (p := fun ks => ks.Nodup → q ∈ ks → (dat ks).atKey (kl q) z = .lit (.int .i64 (ks.idxOf q : Nat))) (fun _ hq => by simp at hq) (fun ks r ih => ?_) ks
  intro hn hq
  rw [dat_snoc]
  by_cases h : q = r
  · subst h
    rw [atKey_put_same (dat_isMap ks) (kl_key q)]
    have : q ∉ ks := fun hm => (List.nodup_append.1 hn).2.2 q hm q (by simp) rfl
    rw [List.idxOf_append]
    simp [this]
  · rw [atKey_put_other (fun e => h (kl_inj e))]
    have hq' : q ∈ ks := by simpa [h] using hq
    rw [ih (List.nodup_append.1 hn).1 hq', List.idxOf_append]
    simp [hq']
end Go.Proofs.Ybulkcueg
