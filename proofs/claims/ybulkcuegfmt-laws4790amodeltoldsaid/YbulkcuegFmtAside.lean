import Derived.Test.YbulkcuegFmtIdx2
namespace Go.Proofs.YbulkcuegFmt
open Go.RowKit

set_option maxRecDepth 100000 in
set_option maxHeartbeats 1000000 in
theorem sel1_is (s : ByteArray) (a y : Int) (W : World) : Calls Ybaf.prog 18 #[.agg #[.string s, .int .u16 a, .int .u8 y]] W fun e W' => e = .returned (.bool (y == 3)) ∧ Below W.heap.size W W' := by
  have hB : Hid _ := bal (o := .cells #[.string s, .int .u16 a, .int .u8 y] 97) (Below.refl _ W)
  go_enter Ybaf.func18, Ybaf.ntmps18
  go_wp2_with fail
  go_ret
  exact ⟨rfl, hB.out⟩

set_option maxRecDepth 100000 in
set_option maxHeartbeats 1000000 in
theorem indexAside_any (va : Option Addr) (b n cap : Nat) (ds : Nat → ByteArray) (ac ys : Nat → Int) (W : World) (hn : n ≤ 10000) (hva : 0 < n → va = some ⟨b, 0, none⟩) (hc : ∀ i, i < n → W.cell? ⟨b, i * 3, none⟩ = some (.string (ds i)) ∧ W.cell? ⟨b, i * 3 + 1, none⟩ = some (.int .u16 (ac i)) ∧ W.cell? ⟨b, i * 3 + 2, none⟩ = some (.int .u8 (ys i))) :
    Calls Ybaf.prog 31 #[.slice va n cap, .func (.func 18) #[] #[]] W fun e W' => ∃ r, e = .returned (.int .i64 r) ∧ IsFst (fun j => ys j == 3) n r ∧ Below W.heap.size W W' := by
  have HC : Hid _ := hc
  clear hc
  go_enter Ybaf.func31, Ybaf.ntmps31
  go_wp2_with fail
  go_loopw [8] (fun vi wr => ∃ i : Nat, i ≤ n ∧ vi = .int .i64 i ∧ Below W.heap.size W wr ∧ Hid (∀ j, j < i → (ys j == 3) = false)) (fun vi _ => n - (intOf vi).toNat)
  case atStart => exact ⟨0, Nat.zero_le _, rfl, Below.refl _ _, fun j hj => by omega⟩
  case round =>
    obtain ⟨i, hi, rfl, hb, hno⟩ := hrel
    by_cases hin : i < n
    · have hin' : (i : Int) < (n : Int) := by omega
      obtain rfl := hva (by omega)
      obtain ⟨c0, c1, c2⟩ := HC.out i hin
      have e0 : wr.cell? ⟨b, i * 3, none⟩ = some (.string (ds i)) := (hb.cell (p := ⟨b, i * 3, none⟩) (lt_of_cell c0)).trans c0
      have e1 : wr.cell? ⟨b, i * 3 + 1, none⟩ = some (.int .u16 (ac i)) := (hb.cell (p := ⟨b, i * 3 + 1, none⟩) (lt_of_cell c0)).trans c1
      have e2 : wr.cell? ⟨b, i * 3 + 2, none⟩ = some (.int .u8 (ys i)) := (hb.cell (p := ⟨b, i * 3 + 2, none⟩) (lt_of_cell c0)).trans c2
      have hs := sel1_is (ds i) (ac i) (ys i) wr
      have HB : Hid _ := hb
      clear c0 c1 c2 hb
      cases hx : (ys i == 3)
      · rw [hx] at hs
        go_wp2_with fail
        refine hs.mono ?_
        rintro e w1 ⟨rfl, hb1⟩
        have HB1 : Hid _ := HB.out.trans (hb1.mono HB.out.size)
        clear hb1 hs
        go_wp2_with fail
        go_roundw
        case rel => exact ⟨i + 1, by omega, by go_num, HB1.out, fun j hj => by
          by_cases e : j = i
          · rw [e]; exact hx
          · exact hno.out j (by omega)⟩
        case measure => simp [intOf]; omega
      · rw [hx] at hs
        go_wp2_with fail
        refine hs.mono ?_
        rintro e w1 ⟨rfl, hb1⟩
        have HB1 : Hid _ := HB.out.trans (hb1.mono HB.out.size)
        clear hb1 hs
        go_wp2_with fail
        go_ret
        exact ⟨_, rfl, .inr ⟨i, rfl, hin, hx, hno.out⟩, HB1.out⟩
    · have e : n = i := by omega
      subst e
      have hnl : ¬ (n : Int) < (n : Int) := by omega
      go_wp2_with fail
      go_ret
      exact ⟨_, rfl, .inl ⟨rfl, hno.out⟩, hb⟩

set_option maxRecDepth 100000 in
set_option maxHeartbeats 1000000 in
theorem containsAside_any (va : Option Addr) (b n cap : Nat) (ds : Nat → ByteArray) (ac ys : Nat → Int) (W : World) (hn : n ≤ 10000) (hva : 0 < n → va = some ⟨b, 0, none⟩) (hc : ∀ i, i < n → W.cell? ⟨b, i * 3, none⟩ = some (.string (ds i)) ∧ W.cell? ⟨b, i * 3 + 1, none⟩ = some (.int .u16 (ac i)) ∧ W.cell? ⟨b, i * 3 + 2, none⟩ = some (.int .u8 (ys i))) :
    Calls Ybaf.prog 17 #[.slice va n cap, .func (.func 18) #[] #[]] W fun e W' => ∃ t : Bool, e = .returned (.bool t) ∧ (t = true ↔ ∃ j, j < n ∧ ys j = 3) ∧ Below W.heap.size W W' := by
  have hi := indexAside_any va b n cap ds ac ys W hn hva hc
  clear hc
  go_enter Ybaf.func17, Ybaf.ntmps17
  go_wp2_with fail
  refine hi.mono ?_
  rintro e w1 ⟨r, rfl, hr, hb1⟩
  have HB : Hid _ := hb1
  clear hb1 hi
  rcases hr with ⟨rfl, hr⟩ | ⟨k, rfl, h1, h2, h3⟩
  · go_wp2_with fail
    go_ret
    exact ⟨false, rfl, ⟨fun h => absurd h (by simp), fun ⟨j, h1, h2⟩ => by have := hr j h1; simp [h2] at this⟩, HB.out⟩
  · have hk : (0 : Int) ≤ (k : Int) := by omega
    go_wp2_with fail
    go_ret
    exact ⟨true, rfl, ⟨fun _ => ⟨k, h1, by simpa using h2⟩, fun _ => rfl⟩, HB.out⟩
end Go.Proofs.YbulkcuegFmt
