import Derived.Test.YbulkcuegFmtKeys
namespace Go.Proofs.YbulkcuegFmt
open Go.RowKit Go.Maps

theorem dat_no {H : Type} (ks : List (Fin 50)) (q : Fin 50) (hq : q ∉ ks) (z : DataW H) : (dat ks).atKey (kl q) z = z := by
  revert hq
  refine snoc_ind (p := fun ks => q ∉ ks → (dat ks).atKey (kl q) z = z) (fun _ => rfl) (fun ks r ih => ?_) ks
  intro hq
  rw [dat_snoc, atKey_put_other (fun e => hq (by rw [kl_inj e]; simp))]
  exact ih (fun h => hq (by simp [h]))

theorem look130 {w : World} {mb n : Nat} {ks : List (Fin 50)} (hn : ks.Nodup) (h : w.ownsMap (H := Unit) Ybaf.prog 60 (plainElem Ybaf.prog 3) mb n (dat ks)) (q : Fin 50) :
    (Instr.lookup 130 (.map (some mb)) (.agg #[.string (kd q), .int .u16 (ka q)]) true).run Ybaf.prog w = .ok (.tuple #[.int .i64 (if q ∈ ks then ((ks.idxOf q : Nat) : Int) else 0), .bool (decide (q ∈ ks))]) w := by
  obtain ⟨v, ps, hr, hv⟩ := h.look_ok law60 Ybaf.underlying130 (zero3 w) (plainElem_int (H := Unit) Ybaf.underlying3 (by decide)) (key60 q)
  rw [hr, dat_has]
  obtain ⟨c, rfl, hc, _⟩ := plainElem_int_inv Ybaf.underlying3 hv
  have e := congrArg Prod.fst hc
  simp only at e
  by_cases hq : q ∈ ks
  · rw [dat_at ks hn q hq] at e
    simp only [DataW.lit.injEq, Lit.int.injEq, true_and] at e
    rw [if_pos hq, e]
  · rw [dat_no ks q hq] at e
    simp only [DataW.lit.injEq, Lit.int.injEq, true_and] at e
    rw [if_neg hq, ← e]

/-- the combinations ks, merged, at ⟨b, o⟩ -/
structure Merged (w : World) (b o db cap : Nat) (mp : Option Nat) (ks : List (Fin 50)) : Prop where
  c : w.cell? ⟨b, o, none⟩ = some (.slice (some ⟨db, 0, none⟩) ks.length cap)
  m : w.cell? ⟨b, o + 1, none⟩ = some (.map mp)
  own : ∀ mb, mp = some mb → w.ownsMap (H := Unit) Ybaf.prog 60 (plainElem Ybaf.prog 3) mb ks.length (dat ks)
  p0 : ∀ i, i < ks.length → w.cell? ⟨db, i * 10, none⟩ = some (.string (kd (ks.getD i 0)))
  p1 : ∀ i, i < ks.length → w.cell? ⟨db, i * 10 + 1, none⟩ = some (.int .u16 (ka (ks.getD i 0)))
  nd : ks.Nodup

theorem neq130 (mb : Nat) (w : World) : (binOp .neq 130 (.map (some mb)) (.map none)).run Ybaf.prog w = .ok (.bool true) w := by kernel_rfl
theorem neq95n (w : World) : (binOp .neq 130 (.map none) (.map none)).run Ybaf.prog w = .ok (.bool false) w := by kernel_rfl

def place (ks : List (Fin 50)) (q : Fin 50) : Int := if q ∈ ks then ((ks.idxOf q : Nat) : Int) else -1

theorem nodup_le (N : Nat) : ∀ (l : List Nat), l.Nodup → (∀ x ∈ l, x < N) → l.length ≤ N := by
  induction N with
  | zero => intro l _ h; cases l with | nil => exact Nat.le_refl _ | cons x l => exact absurd (h x (by simp)) (by omega)
  | succ N ih =>
    intro l hn h
    have h1 : (l.erase N).length ≤ N := ih _ (hn.erase N) (fun x hx => by
      have hx' := h x (List.mem_of_mem_erase hx)
      have : x ≠ N := fun e => by subst e; exact (hn.not_mem_erase) hx
      omega)
    have := List.length_erase (a := N) (l := l)
    split at this <;> omega
theorem nodup50 (ks : List (Fin 50)) (h : ks.Nodup) : ks.length ≤ 50 := by
  have := nodup_le 50 (ks.map Fin.val) (List.Pairwise.map Fin.val (fun _ _ hne e => hne (Fin.ext e)) h) (fun x hx => by
    obtain ⟨y, _, rfl⟩ := List.mem_map.1 hx
    exact y.isLt)
  simpa using this

set_option maxRecDepth 100000 in
set_option maxHeartbeats 1000000 in
theorem find_map (b o db cap mb : Nat) (ks : List (Fin 50)) (q : Fin 50) (w : World) (M : Merged w b o db cap (some mb) ks) :
    Calls Ybaf.prog 61 #[.pointer (some ⟨b, o, none⟩), .agg #[.string (kd q), .int .u16 (ka q)]] w fun e w' => e = .returned (.int .i64 (place ks q)) ∧ ∃ n, w' = (w.alloc (.cells #[.string (kd q), .int .u16 (ka q)] 60)).drewN n := by
  have hown := M.own mb rfl
  have hm : (w.alloc (.cells #[.string (kd q), .int .u16 (ka q)] 60)).cell? ⟨b, o + 1, none⟩ = some (.map (some mb)) := cell_alloc M.m
  have hlk := fun n => look130 (w := (w.alloc (.cells #[.string (kd q), .int .u16 (ka q)] 60)).drewN n) M.nd (hown.alloc _) q
  have c0 : (w.alloc (.cells #[.string (kd q), .int .u16 (ka q)] 60)).cell? ⟨w.heap.size, 0, none⟩ = some (.string (kd q)) := by simp [go_sem]
  have c1 : (w.alloc (.cells #[.string (kd q), .int .u16 (ka q)] 60)).cell? ⟨w.heap.size, 1, none⟩ = some (.int .u16 (ka q)) := by simp [go_sem]
  clear hown M
  have hne := neq130 mb
  unfold place
  by_cases hq : q ∈ ks
  · simp only [hq, if_true, decide_true] at hlk ⊢
    generalize ((ks.idxOf q : Nat) : Int) = c at hlk ⊢
    go_enter Ybaf.func61, Ybaf.ntmps61
    go_upto_region 1 with fail
    generalize hW : w.alloc (.cells #[.string (kd q), .int .u16 (ka q)] 60) = W at *
    have HW : Hid (w.alloc (.cells #[.string (kd q), .int .u16 (ka q)] 60) = W) := hW
    clear hW
    go_wp2_with fail
    go_quiet (fail)
    go_wp2_with fail
    go_ret
    exact ⟨rfl, nq, by rw [HW.out]⟩
  · simp only [hq, if_false, decide_false] at hlk ⊢
    go_enter Ybaf.func61, Ybaf.ntmps61
    go_upto_region 1 with fail
    generalize hW : w.alloc (.cells #[.string (kd q), .int .u16 (ka q)] 60) = W at *
    have HW : Hid (w.alloc (.cells #[.string (kd q), .int .u16 (ka q)] 60) = W) := hW
    clear hW
    go_wp2_with fail
    go_quiet (fail)
    go_wp2_with fail
    go_ret
    exact ⟨rfl, nq, by rw [HW.out]⟩

set_option maxRecDepth 100000 in
set_option maxHeartbeats 1000000 in
theorem find_loop (b o db cap : Nat) (ks : List (Fin 50)) (q : Fin 50) (w : World) (M : Merged w b o db cap none ks) :
    Calls Ybaf.prog 61 #[.pointer (some ⟨b, o, none⟩), .agg #[.string (kd q), .int .u16 (ka q)]] w fun e w' => e = .returned (.int .i64 (place ks q)) ∧ ∃ n, w' = (w.alloc (.cells #[.string (kd q), .int .u16 (ka q)] 60)).drewN n := by
  have h9 := nodup50 ks M.nd
  have hm : (w.alloc (.cells #[.string (kd q), .int .u16 (ka q)] 60)).cell? ⟨b, o + 1, none⟩ = some (.map none) := cell_alloc M.m
  have hc : (w.alloc (.cells #[.string (kd q), .int .u16 (ka q)] 60)).cell? ⟨b, o, none⟩ = some (.slice (some ⟨db, 0, none⟩) ks.length cap) := cell_alloc M.c
  have P0 : Hid (∀ i, i < ks.length → (w.alloc (.cells #[.string (kd q), .int .u16 (ka q)] 60)).cell? ⟨db, i * 10, none⟩ = some (.string (kd (ks.getD i 0)))) := fun i hi => cell_alloc (M.p0 i hi)
  have P1 : Hid (∀ i, i < ks.length → (w.alloc (.cells #[.string (kd q), .int .u16 (ka q)] 60)).cell? ⟨db, i * 10 + 1, none⟩ = some (.int .u16 (ka (ks.getD i 0)))) := fun i hi => cell_alloc (M.p1 i hi)
  have c0 : (w.alloc (.cells #[.string (kd q), .int .u16 (ka q)] 60)).cell? ⟨w.heap.size, 0, none⟩ = some (.string (kd q)) := by simp [go_sem]
  have c1 : (w.alloc (.cells #[.string (kd q), .int .u16 (ka q)] 60)).cell? ⟨w.heap.size, 1, none⟩ = some (.int .u16 (ka q)) := by simp [go_sem]
  have hne := neq95n
  have he := eqk
  clear M
  generalize hpl : place ks q = pl
  have HP : Hid (place ks q = pl) := hpl
  clear hpl
  go_enter Ybaf.func61, Ybaf.ntmps61
  go_upto_region 1 with fail
  generalize hW : w.alloc (.cells #[.string (kd q), .int .u16 (ka q)] 60) = W at *
  have HW : Hid (w.alloc (.cells #[.string (kd q), .int .u16 (ka q)] 60) = W) := hW
  clear hW
  go_wp2_with fail
  go_loopw [29] (fun i wr => ∃ (k n : Nat), k ≤ ks.length ∧ i = .int .i64 k ∧ wr = W.drewN n ∧ Hid (∀ j, j < k → ks.getD j 0 ≠ q)) (fun i _ => ks.length - (intOf i).toNat)
  case atStart => exact ⟨0, 0, Nat.zero_le _, rfl, rfl, fun j hj => by omega⟩
  case round =>
    obtain ⟨k, n, hk, rfl, rfl, hno⟩ := hrel
    by_cases hlt : k < ks.length
    · have hlt' : (k : Int) < (ks.length : Int) := by omega
      have q0 := P0.out k hlt
      have q1 := P1.out k hlt
      have hr : ks[k]? = some (ks.getD k 0) := by simp [List.getD, hlt]
      generalize ks.getD k 0 = r at q0 q1 hr
      have HR : Hid (ks[k]? = some r) := hr
      clear hr
      by_cases ha : ka r = ka q
      · have hab : (ka r == ka q) = true := by simp [ha]
        by_cases hd : r.val / 10 = q.val / 10
        · have hdb : decide (r.val / 10 = q.val / 10) = true := by simp [hd]
          have hpk : Hid (pl = (k : Int)) := by
            have e : r = q := by
              apply Fin.ext
              have e2 : ((r.val % 10 : Nat) : Int) = ((q.val % 10 : Nat) : Int) := ha
              omega
            subst e
            have hm : r ∈ ks := List.mem_of_getElem? HR.out
            show _ = _
            rw [← HP.out, place, if_pos hm]
            have h1 : ks.idxOf r ≤ k := by
              refine Nat.le_of_not_lt fun h => ?_
              have h3 := List.not_of_lt_findIdx (p := fun x => x == r) (xs := ks) (i := k) h
              have h4 := (List.getElem?_eq_some_iff.1 HR.out).2
              rw [h4] at h3
              simp at h3
            have h2 : ¬ ks.idxOf r < k := fun h => by
              refine hno.out _ h ?_
              have hl : ks.idxOf r < ks.length := List.idxOf_lt_length_of_mem hm
              simp [List.getD, hl]
            omega
          go_wp2_with fail
          go_quiet (fail)
          go_wp2_with fail
          go_ret
          exact ⟨by rw [hpk.out]; rfl, n + nq, by rw [HW.out]; simp [World.drewN]; try omega⟩
        · have hdb : decide (r.val / 10 = q.val / 10) = false := by simp [hd]
          have hno' : Hid (∀ j, j < k + 1 → ks.getD j 0 ≠ q) := fun j hj => by
            by_cases e : j = k
            · subst e
              intro h
              rw [List.getD, HR.out] at h
              simp at h
              subst h
              exact hd rfl
            · exact hno.out j (by omega)
          clear hd
          go_wp2_with fail
          go_quiet (fail)
          go_wp2_with fail
          go_roundw
          case rel => exact ⟨k + 1, n + nq, by omega, by go_num, by simp [World.drewN]; try omega, hno'⟩
          case measure => simp [intOf]; omega
      · have hab : (ka r == ka q) = false := by simp [ha]
        have hno' : Hid (∀ j, j < k + 1 → ks.getD j 0 ≠ q) := fun j hj => by
          by_cases e : j = k
          · subst e
            intro h
            rw [List.getD, HR.out] at h
            simp at h
            subst h
            exact ha rfl
          · exact hno.out j (by omega)
        clear ha
        go_wp2_with fail
        go_quiet (fail)
        go_wp2_with fail
        go_roundw
        case rel => exact ⟨k + 1, n + nq, by omega, by go_num, by simp [World.drewN]; try omega, hno'⟩
        case measure => simp [intOf]; omega
    · have hpk : Hid (pl = -1) := by
        show _ = _
        rw [← HP.out, place, if_neg]
        intro hm
        have hl : ks.idxOf q < ks.length := List.idxOf_lt_length_of_mem hm
        refine hno.out _ (Nat.lt_of_lt_of_le hl (by omega)) ?_
        simp [List.getD, hl]
      go_wp2_with fail
      go_ret
      exact ⟨by rw [hpk.out]; rfl, n, by rw [HW.out]⟩

theorem find_any (b o db cap : Nat) (mp : Option Nat) (ks : List (Fin 50)) (q : Fin 50) (w : World) (M : Merged w b o db cap mp ks) :
    Calls Ybaf.prog 61 #[.pointer (some ⟨b, o, none⟩), .agg #[.string (kd q), .int .u16 (ka q)]] w fun e w' => e = .returned (.int .i64 (place ks q)) ∧ ∃ n, w' = (w.alloc (.cells #[.string (kd q), .int .u16 (ka q)] 60)).drewN n := by
  cases mp with
  | none => exact find_loop b o db cap ks q w M
  | some mb => exact find_map b o db cap mb ks q w M
end Go.Proofs.YbulkcuegFmt
