import Derived.Test.YbulkcuegFmtRows
import Derived.WalkKit
import Derived.WalkSpells
import Derived.WalkLawsBesides
import Derived.Laws.EntriesVeiled
import Derived.RegionTactic
import Derived.Deep.QuietTactic
import Derived.BigQuiet
import Derived.Deep.DeepCutAuto
import Derived.Deep.CutBlock
import Derived.LaidEql
import Derived.Deep.RegionHeld3
namespace Go.Proofs.YbulkcuegFmt
open Go.RowKit

theorem cell_alloc {w : World} {a : Addr} {o : Obj} {v : Value} (h : w.cell? a = some v) : (w.alloc o).cell? a = some v := by
  rw [World.cell?_alloc_some w a o (by rw [h]; rfl)]; exact h
theorem cell_drew {w : World} {a : Addr} {v : Value} (h : w.cell? a = some v) : w.drew.cell? a = some v := h
theorem cell_set {w : World} {a p : Addr} {u v : Value} (h : w.cell? a = some v) (hp : a.block ≠ p.block) : (w.setCell p u).cell? a = some v := by
  rw [World.cell?_of_block (w := w) (Below.heap_setCell w p u a.block hp)]; exact h
theorem bal {w W : World} {o : Obj} (h : Below w.heap.size w W) : Below w.heap.size w (W.alloc o) := h.alloc h.size o
theorem drewN_below (w : World) (n : Nat) : Below w.heap.size w (w.drewN n) := ⟨rfl, rfl, rfl, Nat.le_refl _, fun _ _ => rfl⟩

/-- the digits of the five networks -/
def dig (d : Nat) : ByteArray := if d = 1 then ⟨#[48, 48, 49, 48, 49]⟩ else if d = 2 then ⟨#[48, 48, 49, 48, 50]⟩ else if d = 3 then ⟨#[48, 48, 50, 48, 49]⟩ else if d = 4 then ⟨#[51, 49, 48, 50, 54, 48]⟩ else ⟨#[]⟩
def md5 (p : Int) : Nat := (p % 5).toNat

set_option maxRecDepth 100000 in
set_option maxHeartbeats 400000 in
theorem plmn_any (p : Int) (w : World) (h0 : 0 ≤ p) (h1 : p ≤ 255) :
    Calls Ybaf.prog 5 #[.int .u8 p] w fun e w' => e = .returned (.agg #[.string (dig (md5 p))]) ∧ w.alloc (.cells #[.string (dig (md5 p))] 29) = w' := by
  have H : Hid (∀ k : Nat, p % 5 = k → dig k = dig (md5 p)) := fun k hk => by unfold md5; rw [hk]; simp
  have hr0 : 0 ≤ p % 5 := by omega
  have hr1 : p % 5 < 5 := by omega
  cases e1 : (p % 5 == 1)
  · cases e2 : (p % 5 == 2)
    · cases e3 : (p % 5 == 3)
      · cases e4 : (p % 5 == 4)
        · have h5 : Hid ((⟨#[]⟩ : ByteArray) = dig (md5 p)) := (H.out 0 (by simp at e1 e2 e3 e4; omega) : dig 0 = _)
          clear hr0 hr1
          go_enter Ybaf.func5, Ybaf.ntmps5
          go_wp2_with fail
          rw [h5.out]
          exact bodyPost_ret (v := .agg #[.string (dig (md5 p))]) (by simp [results, Ybaf.results5, go_sem]) rfl ⟨rfl, rfl⟩
        · have h5 : Hid ((⟨#[51, 49, 48, 50, 54, 48]⟩ : ByteArray) = dig (md5 p)) := (H.out 4 (by simpa using e4) : dig 4 = _)
          clear hr0 hr1
          go_enter Ybaf.func5, Ybaf.ntmps5
          go_wp2_with fail
          rw [h5.out]
          exact bodyPost_ret (v := .agg #[.string (dig (md5 p))]) (by simp [results, Ybaf.results5, go_sem]) rfl ⟨rfl, rfl⟩
      · have h5 : Hid ((⟨#[48, 48, 50, 48, 49]⟩ : ByteArray) = dig (md5 p)) := (H.out 3 (by simpa using e3) : dig 3 = _)
        clear hr0 hr1
        go_enter Ybaf.func5, Ybaf.ntmps5
        go_wp2_with fail
        rw [h5.out]
        exact bodyPost_ret (v := .agg #[.string (dig (md5 p))]) (by simp [results, Ybaf.results5, go_sem]) rfl ⟨rfl, rfl⟩
    · have h5 : Hid ((⟨#[48, 48, 49, 48, 50]⟩ : ByteArray) = dig (md5 p)) := (H.out 2 (by simpa using e2) : dig 2 = _)
      clear hr0 hr1
      go_enter Ybaf.func5, Ybaf.ntmps5
      go_wp2_with fail
      rw [h5.out]
      exact bodyPost_ret (v := .agg #[.string (dig (md5 p))]) (by simp [results, Ybaf.results5, go_sem]) rfl ⟨rfl, rfl⟩
  · have h5 : Hid ((⟨#[48, 48, 49, 48, 49]⟩ : ByteArray) = dig (md5 p)) := (H.out 1 (by simpa using e1) : dig 1 = _)
    clear hr0 hr1
    go_enter Ybaf.func5, Ybaf.ntmps5
    go_wp2_with fail
    rw [h5.out]
    exact bodyPost_ret (v := .agg #[.string (dig (md5 p))]) (by simp [results, Ybaf.results5, go_sem]) rfl ⟨rfl, rfl⟩

/-! ### the comparisons -/
def cmpI (x y : Int) : Int := if x < y then -1 else if y < x then 1 else 0

set_option maxRecDepth 100000 in
set_option maxHeartbeats 400000 in
theorem nan_any (x : Int) (w : World) : Calls Ybaf.prog 51 #[.int .i64 x] w fun e w' => e = .returned (.bool false) ∧ w = w' := by
  go_enter Ybaf.func51, Ybaf.ntmps51
  go_wp2_with fail
  go_ret
  exact ⟨by simp, rfl⟩
set_option maxRecDepth 100000 in
set_option maxHeartbeats 400000 in
theorem nan8_any (x : Int) (w : World) : Calls Ybaf.prog 60 #[.int .u8 x] w fun e w' => e = .returned (.bool false) ∧ w = w' := by
  go_enter Ybaf.func60, Ybaf.ntmps60
  go_wp2_with fail
  go_ret
  exact ⟨by simp, rfl⟩

set_option maxRecDepth 100000 in
set_option maxHeartbeats 400000 in
theorem compare_any (x y : Int) (w : World) : Calls Ybaf.prog 40 #[.int .i64 x, .int .i64 y] w fun e w' => e = .returned (.int .i64 (cmpI x y)) ∧ w = w' := by
  have hn1 := fun w => nan_any x w
  have hn2 := fun w => nan_any y w
  generalize hc : cmpI x y = c
  have HC : Hid (cmpI x y = c) := hc
  clear hc
  by_cases h1 : x < y
  · go_enter Ybaf.func40, Ybaf.ntmps40
    go_wp2_with fail
    refine (hn1 _).mono ?_
    rintro e w1 ⟨rfl, rfl⟩
    go_wp2_with fail
    refine (hn2 _).mono ?_
    rintro e w1 ⟨rfl, rfl⟩
    go_wp2_with fail
    go_ret
    exact ⟨by rw [← HC.out]; simp [cmpI, h1], rfl⟩
  · by_cases h2 : y < x
    · go_enter Ybaf.func40, Ybaf.ntmps40
      go_wp2_with fail
      refine (hn1 _).mono ?_
      rintro e w1 ⟨rfl, rfl⟩
      go_wp2_with fail
      refine (hn2 _).mono ?_
      rintro e w1 ⟨rfl, rfl⟩
      go_wp2_with fail
      go_ret
      exact ⟨by rw [← HC.out]; simp [cmpI, h1, h2], rfl⟩
    · go_enter Ybaf.func40, Ybaf.ntmps40
      go_wp2_with fail
      refine (hn1 _).mono ?_
      rintro e w1 ⟨rfl, rfl⟩
      go_wp2_with fail
      refine (hn2 _).mono ?_
      rintro e w1 ⟨rfl, rfl⟩
      go_wp2_with fail
      go_ret
      exact ⟨by rw [← HC.out, cmpI, if_neg (by omega), if_neg (by omega)]; rfl, rfl⟩

set_option maxRecDepth 100000 in
set_option maxHeartbeats 400000 in
theorem compare8_any (x y : Int) (w : World) : Calls Ybaf.prog 50 #[.int .u8 x, .int .u8 y] w fun e w' => e = .returned (.int .i64 (cmpI x y)) ∧ w = w' := by
  have hn1 := fun w => nan8_any x w
  have hn2 := fun w => nan8_any y w
  generalize hc : cmpI x y = c
  have HC : Hid (cmpI x y = c) := hc
  clear hc
  by_cases h1 : x < y
  · go_enter Ybaf.func50, Ybaf.ntmps50
    go_wp2_with fail
    refine (hn1 _).mono ?_
    rintro e w1 ⟨rfl, rfl⟩
    go_wp2_with fail
    refine (hn2 _).mono ?_
    rintro e w1 ⟨rfl, rfl⟩
    go_wp2_with fail
    go_ret
    exact ⟨by rw [← HC.out]; simp [cmpI, h1], rfl⟩
  · by_cases h2 : y < x
    · go_enter Ybaf.func50, Ybaf.ntmps50
      go_wp2_with fail
      refine (hn1 _).mono ?_
      rintro e w1 ⟨rfl, rfl⟩
      go_wp2_with fail
      refine (hn2 _).mono ?_
      rintro e w1 ⟨rfl, rfl⟩
      go_wp2_with fail
      go_ret
      exact ⟨by rw [← HC.out]; simp [cmpI, h1, h2], rfl⟩
    · go_enter Ybaf.func50, Ybaf.ntmps50
      go_wp2_with fail
      refine (hn1 _).mono ?_
      rintro e w1 ⟨rfl, rfl⟩
      go_wp2_with fail
      refine (hn2 _).mono ?_
      rintro e w1 ⟨rfl, rfl⟩
      go_wp2_with fail
      go_ret
      exact ⟨by rw [← HC.out, cmpI, if_neg (by omega), if_neg (by omega)]; rfl, rfl⟩
end Go.Proofs.YbulkcuegFmt
