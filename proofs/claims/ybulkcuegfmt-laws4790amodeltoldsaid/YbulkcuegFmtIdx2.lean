import Derived.Test.YbulkcuegFmtIdx
import Derived.Test.YbulkcuegFmtCm
namespace Go.Proofs.YbulkcuegFmt
open Go.RowKit

theorem dig_eq : ∀ a b : Fin 5, decide ((dig a.val).data.toList = (dig b.val).data.toList) = decide (a = b) := by decide
theorem eq29 (a b : Fin 5) (w : World) : (binOp .eql 29 (.agg #[.string (dig a.val)]) (.agg #[.string (dig b.val)])).run Ybaf.prog w = .ok (.bool (decide (a = b))) w := by
  have h : ∀ a b : ByteArray, ∀ w, (binOp .eql 29 (.agg #[.string a]) (.agg #[.string b])).run Ybaf.prog w = .ok (.bool (decide (a.data.toList = b.data.toList))) w := fun a b w => by
    rw [← ByteArray.toList_eq, ← ByteArray.toList_eq]
    by_cases e : a.toList = b.toList <;> simp [go_sem, e]
  rw [h, dig_eq]
theorem eq60 (a b : Fin 5) (x y : Int) (w : World) : (binOp .eql 60 (.agg #[.string (dig a.val), .int .u16 x]) (.agg #[.string (dig b.val), .int .u16 y])).run Ybaf.prog w = .ok (.bool (decide (a = b) && decide (x = y))) w := by
  have h : ∀ a b : ByteArray, ∀ w, (binOp .eql 60 (.agg #[.string a, .int .u16 x]) (.agg #[.string b, .int .u16 y])).run Ybaf.prog w = .ok (.bool (decide (a.data.toList = b.data.toList) && decide (x = y))) w := fun a b w => by
    rw [← ByteArray.toList_eq, ← ByteArray.toList_eq]
    by_cases e : a.toList = b.toList <;> by_cases e' : x = y <;> simp [go_sem, e, e']
  rw [h, dig_eq]

set_option maxRecDepth 100000 in
set_option maxHeartbeats 1000000 in
theorem indexPlmn_any (va : Option Addr) (b o n cap : Nat) (xs : Nat → Fin 5) (x : Fin 5) (W : World) (hn : n ≤ 10000) (hva : 0 < n → va = some ⟨b, o, none⟩) (hc : ∀ i, i < n → W.cell? ⟨b, o + i, none⟩ = some (.string (dig (xs i).val))) :
    Calls Ybaf.prog 19 #[.slice va n cap, .agg #[.string (dig x.val)]] W fun e W' => ∃ r, e = .returned (.int .i64 r) ∧ IsFst (fun j => decide (x = xs j)) n r ∧ Below W.heap.size W W' := by
  have HC : Hid _ := hc
  clear hc
  have he := eq29
  have hb0 := bal (o := .cells #[.string (dig x.val)] 29) (Below.refl _ W)
  have hh := (MapKept.heap_alloc W (.cells #[.string (dig x.val)] 29)).1
  go_enter Ybaf.func19, Ybaf.ntmps19
  go_wp2_with fail
  generalize W.alloc (.cells #[.string (dig x.val)] 29) = W1 at hb0 hh ⊢
  obtain ⟨B, hB⟩ : ∃ B, B = W.heap.size := ⟨_, rfl⟩
  rw [← hB] at hh ⊢
  have HB : Hid _ := hB
  clear hB
  go_loopw [8] (fun vi wr => ∃ i : Nat, i ≤ n ∧ vi = .int .i64 i ∧ Below W.heap.size W wr ∧ wr.heap[B]? = some (.cells #[.string (dig x.val)] 29 (0, 0)) ∧ Hid (∀ j, j < i → decide (x = xs j) = false)) (fun vi _ => n - (intOf vi).toNat)
  case atStart => exact ⟨0, Nat.zero_le _, rfl, hb0, hh, fun j hj => by omega⟩
  case round =>
    clear hb0 hh
    obtain ⟨i, hi, rfl, hbw, hhw, hno⟩ := hrel
    have HW : Hid _ := And.intro hbw hhw
    by_cases hin : i < n
    · have hin' : (i : Int) < (n : Int) := by omega
      obtain rfl := hva (by omega)
      have c0 : wr.cell? ⟨b, o + i, none⟩ = some (.string (dig (xs i).val)) := (hbw.cell (p := ⟨b, o + i, none⟩) (lt_of_cell (HC.out i hin))).trans (HC.out i hin)
      have d0 : wr.cell? ⟨B, 0, none⟩ = some (.string (dig x.val)) := cell_of hhw rfl
      clear hbw hhw
      cases hx : decide (x = xs i)
      · have Hx : Hid _ := hx
        go_wp2_with fail
        go_quiet (fail)
        go_wp2_with fail
        go_roundw
        case rel => exact ⟨i + 1, by omega, by go_num, HW.out.1.trans ((drewN_below _ _).mono HW.out.1.size), HW.out.2, fun j hj => by
          by_cases e : j = i
          · rw [e]; exact Hx.out
          · exact hno.out j (by omega)⟩
        case measure => simp [intOf]; omega
      · have Hx : Hid _ := hx
        go_wp2_with fail
        go_quiet (fail)
        go_wp2_with fail
        go_ret
        exact ⟨_, rfl, .inr ⟨i, rfl, hin, Hx.out, hno.out⟩, HW.out.1.trans ((drewN_below _ _).mono HW.out.1.size)⟩
    · have e : n = i := by omega
      subst e
      have hnl : ¬ (n : Int) < (n : Int) := by omega
      clear hbw hhw
      go_wp2_with fail
      go_ret
      exact ⟨_, rfl, .inl ⟨rfl, hno.out⟩, HW.out.1⟩

set_option maxRecDepth 100000 in
set_option maxHeartbeats 1000000 in
theorem indexComb_any (va : Option Addr) (b o n cap : Nat) (xs : Nat → Fin 5) (ys : Nat → Int) (x : Fin 5) (y : Int) (W : World) (hn : n ≤ 10000) (hva : 0 < n → va = some ⟨b, o, none⟩) (hc : ∀ i, i < n → W.cell? ⟨b, o + i * 2, none⟩ = some (.string (dig (xs i).val)) ∧ W.cell? ⟨b, o + i * 2 + 1, none⟩ = some (.int .u16 (ys i))) :
    Calls Ybaf.prog 8 #[.slice va n cap, .agg #[.string (dig x.val), .int .u16 y]] W fun e W' => ∃ r, e = .returned (.int .i64 r) ∧ IsFst (fun j => (decide (x = xs j) && decide (y = ys j))) n r ∧ Below W.heap.size W W' := by
  have HC : Hid _ := hc
  clear hc
  have he := eq60
  have hb0 := bal (o := .cells #[.string (dig x.val), .int .u16 y] 60) (Below.refl _ W)
  have hh := (MapKept.heap_alloc W (.cells #[.string (dig x.val), .int .u16 y] 60)).1
  go_enter Ybaf.func8, Ybaf.ntmps8
  go_wp2_with fail
  generalize W.alloc (.cells #[.string (dig x.val), .int .u16 y] 60) = W1 at hb0 hh ⊢
  obtain ⟨B, hB⟩ : ∃ B, B = W.heap.size := ⟨_, rfl⟩
  rw [← hB] at hh ⊢
  have HB : Hid _ := hB
  clear hB
  go_loopw [8] (fun vi wr => ∃ i : Nat, i ≤ n ∧ vi = .int .i64 i ∧ Below W.heap.size W wr ∧ wr.heap[B]? = some (.cells #[.string (dig x.val), .int .u16 y] 60 (0, 0)) ∧ Hid (∀ j, j < i → (decide (x = xs j) && decide (y = ys j)) = false)) (fun vi _ => n - (intOf vi).toNat)
  case atStart => exact ⟨0, Nat.zero_le _, rfl, hb0, hh, fun j hj => by omega⟩
  case round =>
    clear hb0 hh
    obtain ⟨i, hi, rfl, hbw, hhw, hno⟩ := hrel
    have HW : Hid _ := And.intro hbw hhw
    by_cases hin : i < n
    · have hin' : (i : Int) < (n : Int) := by omega
      obtain rfl := hva (by omega)
      have c0 : wr.cell? ⟨b, o + i * 2, none⟩ = some (.string (dig (xs i).val)) := (hbw.cell (p := ⟨b, o + i * 2, none⟩) (lt_of_cell (HC.out i hin).1)).trans (HC.out i hin).1
      have c1 : wr.cell? ⟨b, o + i * 2 + 1, none⟩ = some (.int .u16 (ys i)) := (hbw.cell (p := ⟨b, o + i * 2 + 1, none⟩) (lt_of_cell (HC.out i hin).2)).trans (HC.out i hin).2
      have d0 : wr.cell? ⟨B, 0, none⟩ = some (.string (dig x.val)) := cell_of hhw rfl
      have d1 : wr.cell? ⟨B, 1, none⟩ = some (.int .u16 y) := cell_of hhw rfl
      clear hbw hhw
      cases hx : (decide (x = xs i) && decide (y = ys i))
      · have Hx : Hid _ := hx
        go_wp2_with fail
        go_quiet (fail)
        go_wp2_with fail
        go_roundw
        case rel => exact ⟨i + 1, by omega, by go_num, HW.out.1.trans ((drewN_below _ _).mono HW.out.1.size), HW.out.2, fun j hj => by
          by_cases e : j = i
          · rw [e]; exact Hx.out
          · exact hno.out j (by omega)⟩
        case measure => simp [intOf]; omega
      · have Hx : Hid _ := hx
        go_wp2_with fail
        go_quiet (fail)
        go_wp2_with fail
        go_ret
        exact ⟨_, rfl, .inr ⟨i, rfl, hin, Hx.out, hno.out⟩, HW.out.1.trans ((drewN_below _ _).mono HW.out.1.size)⟩
    · have e : n = i := by omega
      subst e
      have hnl : ¬ (n : Int) < (n : Int) := by omega
      clear hbw hhw
      go_wp2_with fail
      go_ret
      exact ⟨_, rfl, .inl ⟨rfl, hno.out⟩, HW.out.1⟩

end Go.Proofs.YbulkcuegFmt
