import Derived.Test.YbulkcuegFmtRow
namespace Go.Proofs.YbulkcuegFmt
open Go.RowKit

/-- r is the first place below n where p holds, or -1 -/
def IsFst (p : Nat → Bool) (n : Nat) (r : Int) : Prop := (r = -1 ∧ ∀ j, j < n → p j = false) ∨ ∃ k : Nat, r = k ∧ k < n ∧ p k = true ∧ ∀ j, j < k → p j = false

set_option maxRecDepth 100000 in
set_option maxHeartbeats 1000000 in
theorem indexAct_any (va : Option Addr) (b o n cap : Nat) (xs : Nat → Int) (x : Int) (W : World) (hn : n ≤ 10000) (hva : 0 < n → va = some ⟨b, o, none⟩) (hc : ∀ i, i < n → W.cell? ⟨b, o + i, none⟩ = some (.int .u16 (xs i))) :
    Calls Ybaf.prog 9 #[.slice va n cap, .int .u16 x] W fun e W' => ∃ r, e = .returned (.int .i64 r) ∧ IsFst (fun j => x == xs j) n r ∧ W = W' := by
  have HC : Hid _ := hc
  clear hc
  go_enter Ybaf.func9, Ybaf.ntmps9
  go_wp2_with fail
  go_loopw [8] (fun vi wr => ∃ i : Nat, i ≤ n ∧ vi = .int .i64 i ∧ W = wr ∧ Hid (∀ j, j < i → (x == xs j) = false)) (fun vi _ => n - (intOf vi).toNat)
  case atStart => exact ⟨0, Nat.zero_le _, rfl, rfl, fun j hj => by omega⟩
  case round =>
    obtain ⟨i, hi, rfl, rfl, hno⟩ := hrel
    by_cases hin : i < n
    · have hin' : (i : Int) < (n : Int) := by omega
      obtain rfl := hva (by omega)
      have c := HC.out i hin
      cases hx : (x == xs i)
      · go_wp2_with fail
        go_roundw
        case rel => exact ⟨i + 1, by omega, by go_num, trivial, fun j hj => by
          by_cases e : j = i
          · rw [e]; exact hx
          · exact hno.out j (by omega)⟩
        case measure => simp [intOf]; omega
      · go_wp2_with fail
        go_ret
        exact ⟨_, rfl, .inr ⟨i, rfl, hin, hx, hno.out⟩, rfl⟩
    · have e : n = i := by omega
      subst e
      have hnl : ¬ (n : Int) < (n : Int) := by omega
      go_wp2_with fail
      go_ret
      exact ⟨_, rfl, .inl ⟨rfl, hno.out⟩, rfl⟩

set_option maxRecDepth 100000 in
set_option maxHeartbeats 1000000 in
theorem containsAct_any (va : Option Addr) (b o n cap : Nat) (xs : Nat → Int) (x : Int) (W : World) (hn : n ≤ 10000) (hva : 0 < n → va = some ⟨b, o, none⟩) (hc : ∀ i, i < n → W.cell? ⟨b, o + i, none⟩ = some (.int .u16 (xs i))) :
    Calls Ybaf.prog 12 #[.slice va n cap, .int .u16 x] W fun e W' => ∃ t : Bool, e = .returned (.bool t) ∧ (t = true ↔ ∃ j, j < n ∧ xs j = x) ∧ W = W' := by
  have hi := indexAct_any va b o n cap xs x W hn hva hc
  clear hc
  go_enter Ybaf.func12, Ybaf.ntmps12
  go_wp2_with fail
  refine hi.mono ?_
  rintro e w1 ⟨r, rfl, hr, rfl⟩
  rcases hr with ⟨rfl, hr⟩ | ⟨k, rfl, h1, h2, h3⟩
  · go_wp2_with fail
    go_ret
    exact ⟨false, rfl, ⟨fun h => absurd h (by simp), fun ⟨j, h1, h2⟩ => by have := hr j h1; simp [h2] at this⟩, rfl⟩
  · have hk : (0 : Int) ≤ (k : Int) := by omega
    go_wp2_with fail
    go_ret
    exact ⟨true, rfl, ⟨fun _ => ⟨k, h1, by simpa using (by simpa using h2 : x = xs k).symm⟩, fun _ => rfl⟩, rfl⟩
end Go.Proofs.YbulkcuegFmt
