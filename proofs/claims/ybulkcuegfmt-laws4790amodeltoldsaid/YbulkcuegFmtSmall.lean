import Derived.Test.YbulkcuegFmtIdx2
namespace Go.Proofs.YbulkcuegFmt
open Go.RowKit

set_option maxRecDepth 100000 in
set_option maxHeartbeats 1000000 in
theorem containsPlmn_any (va : Option Addr) (b o n cap : Nat) (xs : Nat → Fin 5) (x : Fin 5) (W : World) (hn : n ≤ 10000) (hva : 0 < n → va = some ⟨b, o, none⟩) (hc : ∀ i, i < n → W.cell? ⟨b, o + i, none⟩ = some (.string (dig (xs i).val))) :
    Calls Ybaf.prog 10 #[.slice va n cap, .agg #[.string (dig x.val)]] W fun e W' => ∃ t : Bool, e = .returned (.bool t) ∧ (t = true ↔ ∃ j, j < n ∧ xs j = x) ∧ Below W.heap.size W W' := by
  have hi := fun W' (hb : Below W.heap.size W W') => indexPlmn_any va b o n cap xs x W' hn hva (fun i h => (hb.cell (p := ⟨b, o + i, none⟩) (lt_of_cell (hc i h))).trans (hc i h))
  have hb0 := bal (o := .cells #[.string (dig x.val)] 29) (Below.refl _ W)
  have hh := (MapKept.heap_alloc W (.cells #[.string (dig x.val)] 29)).1
  have hi0 := hi _ hb0
  clear hc hi
  go_enter Ybaf.func10, Ybaf.ntmps10
  go_wp2_with fail
  refine hi0.mono ?_
  rintro e w1 ⟨r, rfl, hr, hb1⟩
  have HB : Hid (Below W.heap.size W w1) := hb0.trans (hb1.mono hb0.size)
  clear hb0 hb1 hh hi0
  rcases hr with ⟨rfl, hr⟩ | ⟨k, rfl, h1, h2, h3⟩
  · go_wp2_with fail
    go_ret
    exact ⟨false, rfl, ⟨fun h => absurd h (by simp), fun ⟨j, h1, h2⟩ => by have := hr j h1; simp [h2] at this⟩, HB.out⟩
  · have hk : (0 : Int) ≤ (k : Int) := by omega
    go_wp2_with fail
    go_ret
    exact ⟨true, rfl, ⟨fun _ => ⟨k, h1, by simpa using (by simpa using h2 : x = xs k).symm⟩, fun _ => rfl⟩, HB.out⟩

def ruleOf (c : Int) : Int := if c = 0 then 1 else if c = 1 then 4 else 5
set_option maxRecDepth 100000 in
set_option maxHeartbeats 1000000 in
theorem rule_any (c : Int) (W : World) (h0 : 0 ≤ c) (h1 : c ≤ 2) : Calls Ybaf.prog 11 #[.int .i64 c] W fun e W' => e = .returned (.int .u8 (ruleOf c)) ∧ W = W' := by
  rcases (show c = 0 ∨ c = 1 ∨ c = 2 by omega) with rfl | rfl | rfl
  · go_enter Ybaf.func11, Ybaf.ntmps11
    go_wp2_with fail
    go_ret
    exact ⟨rfl, rfl⟩
  · go_enter Ybaf.func11, Ybaf.ntmps11
    go_wp2_with fail
    go_ret
    exact ⟨rfl, rfl⟩
  · go_enter Ybaf.func11, Ybaf.ntmps11
    go_wp2_with fail
    go_ret
    exact ⟨rfl, rfl⟩
end Go.Proofs.YbulkcuegFmt
