import Derived.Test.YbulkcueuDoorRows
import Derived.Test.YbulkcueuDoorShelf
import Derived.Test.YbulkcueuDoorLocks
import Derived.Conc.MuLone
import Derived.WalkKit
import Derived.WalkSpells
import Derived.WalkLawsBesides
import Derived.Laws.EntriesVeiled
import Derived.RegionTactic
import Derived.Deep.QuietTactic
import Derived.BigQuiet
import Derived.Defers
import Derived.LaidEql
namespace Go.Proofs.YbulkcueuDoor
open Go.RowKit Go.MuLone

/-- A cell that is written and written back: the memory is as it was. -/
theorem relock {w w2 : World} {a : Addr} {v u : Value} (hc : w.cell? a = some v) (h : Below (w.setCell a u).heap.size (w.setCell a u) w2) : Below w.heap.size w (w2.setCell a v) := by
  have hs : (w.setCell a u).heap.size = w.heap.size := by simp
  rw [hs] at h
  refine ⟨h.os, h.tape, h.output, ?_, fun k hk => ?_⟩
  · have := h.size
    simpa using this
  · by_cases e : k = a.block
    · subst e
      have hb := h.block a.block hk
      unfold World.setCell at hb ⊢
      simp only [Array.getElem?_modify, if_true] at hb ⊢
      rw [hb]
      unfold World.cell? at hc
      cases hw : w.heap[a.block]? with
      | none => rfl
      | some o =>
        rw [hw] at hc
        cases o with
        | cells c t fz =>
          simp only at hc
          split at hc
          · cases hc
          · simp only [Option.map_some, Option.some.injEq]
            rename_i hsp
            have hsp' : a.spot.isSome = false := by simpa using hsp
            have e2 : (c.setIfInBounds a.off u).setIfInBounds a.off v = c := by
              rw [Array.setIfInBounds_setIfInBounds]
              apply Array.ext
              · simp
              · intro i h1 h2
                rw [Array.getElem_setIfInBounds]
                split
                · rename_i hi
                  subst hi
                  rw [Array.getElem?_eq_getElem h2] at hc
                  exact (Option.some.inj hc).symm
                · rfl
            simp [hsp', e2]
        | _ => rfl
    · rw [Below.heap_setCell _ _ _ _ e]
      rw [h.block k hk, Below.heap_setCell _ _ _ _ e]

/-- A pointer to a lock's int32, seen as an untyped pointer: the same address. -/
theorem conv_run {a : Addr} {v : Value} {w : World} (hc : w.cell? a = some v) : (convert 111 79 (.pointer (some a))).run Ybad.prog w = .ok (.pointer (some a)) w := by
  obtain ⟨e, n, hsh, hlt, hsp⟩ := World.shape?_of_cell? hc
  have hsz : (Ybad.prog.info? 47).map (fun i => decide (i.size = 0)) = some false := by kernel_rfl
  obtain ⟨i, hi, hz0⟩ := Option.map_eq_some_iff.1 hsz
  have hz : i.size ≠ 0 := by simpa using hz0
  have hge : ¬ (n ≤ a.off) := by omega
  simp [convert, run_underlying Ybad.underlying111, run_underlying Ybad.underlying79, Result.andThen]
  show Sem.run Ybad.prog (bind _ _) w = _
  simp [run_underlying Ybad.underlying111, run_underlying Ybad.underlying79, Conv.seenAt, viewAt, cellsIn, sizeOf, typeInfo, hi, hz, hsh, hge, Result.andThen]

set_option maxRecDepth 100000 in
set_option maxHeartbeats 400000 in
theorem trylock_free (a : Nat) (o : Nat) (w : World) (hc : w.cell? ⟨a, o, none⟩ = some (.int .i32 0)) (hz : w.frozen? ⟨a, o, none⟩ = false) :
    Calls Ybad.prog 14 #[.pointer (some ⟨a, o, none⟩)] w fun e w' => e = .returned (.bool true) ∧ w.setCell ⟨a, o, none⟩ (.int .i32 1) = w' := by
  have hd := fun w => run_call_mark0 (P := Ybad.prog) Ybad.func37 (by kernel_rfl) (by kernel_rfl) (by kernel_rfl) .disable (by kernel_rfl) w
  have he := fun w => run_call_mark0 (P := Ybad.prog) Ybad.func38 (by kernel_rfl) (by kernel_rfl) (by kernel_rfl) .enable (by kernel_rfl) w
  have ha := fun w => run_call_marked (P := Ybad.prog) Ybad.func40 (by kernel_rfl) (by kernel_rfl) (by kernel_rfl) .acquire (by kernel_rfl) ⟨a, o, none⟩ w
  have hcas := run_call_cas_hit (P := Ybad.prog) Ybad.func39 (by kernel_rfl) (by kernel_rfl) (by kernel_rfl) .i32 (by kernel_rfl) (y := 1) hc hz
  have hcv := conv_run (World.cell?_setCell_same w ⟨a, o, none⟩ (.int .i32 1) hc)
  have hb1 : bits .and .i32 0 5 = 0 := by decide
  have hb2 : bits .or .i32 0 1 = 1 := by decide
  go_enter Ybad.func14, Ybad.ntmps14
  go_wp2
  go_ret
  exact ⟨rfl, rfl⟩

abbrev sStat : ByteArray := ⟨#[115, 116, 97, 116]⟩
abbrev sClose : ByteArray := ⟨#[99, 108, 111, 115, 101]⟩

set_option maxRecDepth 100000 in
set_option maxHeartbeats 400000 in
theorem usable_closed (hb : Nat) (op name : ByteArray) (X : TypeId) (p : Addr) (w : World) (c2 : w.cell? ⟨hb, 2, none⟩ = some (.string name)) (c6 : w.cell? ⟨hb, 6, none⟩ = some (.bool true))
    (hg : w.cell? ⟨3, 0, none⟩ = some (.iface X (.pointer (some p)))) :
    Calls Ybad.prog 26 #[.pointer (some ⟨hb, 0, none⟩), .string op] w fun e w' => e = .returned (.iface 37 (.pointer (some ⟨w.heap.size, 0, none⟩))) ∧ (w.alloc (.cells #[.string op, .string name, .iface X (.pointer (some p))] 41)).drew = w' := by
  go_enter Ybad.func26, Ybad.ntmps26
  go_wp2_with fail
  go_region
  go_wp2_with fail
  go_ret
  exact ⟨rfl, rfl⟩

set_option maxRecDepth 100000 in
set_option maxHeartbeats 400000 in
theorem usable_open (hb nb : Nat) (dir : Bool) (w : World) (c1 : w.cell? ⟨hb, 1, none⟩ = some (.pointer (some ⟨nb, 0, none⟩))) (c6 : w.cell? ⟨hb, 6, none⟩ = some (.bool false)) (n0 : w.cell? ⟨nb, 0, none⟩ = some (.bool dir)) :
    Calls Ybad.prog 26 #[.pointer (some ⟨hb, 0, none⟩), .string sStat] w fun e w' => e = .returned .nilIface ∧ w = w' := by
  cases dir
  · go_enter Ybad.func26, Ybad.ntmps26
    go_wp2_with fail
    go_ret
    exact ⟨rfl, rfl⟩
  · go_enter Ybad.func26, Ybad.ntmps26
    go_wp2_with fail
    go_ret
    exact ⟨rfl, rfl⟩

set_option maxRecDepth 100000 in
set_option maxHeartbeats 400000 in
theorem info_any (nb len cap : Nat) (ao : Option Addr) (dir : Bool) (name : ByteArray) (hs : name.size ≤ 9223372036854775807) (w : World) (n0 : w.cell? ⟨nb, 0, none⟩ = some (.bool dir)) (n1 : w.cell? ⟨nb, 1, none⟩ = some (.slice ao len cap)) :
    Calls Ybad.prog 27 #[.pointer (some ⟨nb, 0, none⟩), .string name] w fun e w' => e = .returned (.iface 69 (.agg #[.string ⟨(Lib.Pa.base name.data.toList).toArray⟩, .int .i64 len, .bool dir])) ∧ ∃ n, w' = w.drewN n := by
  generalize hr : (⟨(Lib.Pa.base name.data.toList).toArray⟩ : ByteArray) = r
  have hp : ∀ w, Calls Ybad.prog 36 #[.string name] w fun e w' => e = .returned (.string r) ∧ w' = w := fun w => by rw [← hr]; exact Ybad.path_Base name w hs
  clear hr
  go_enter Ybad.func27, Ybad.ntmps27
  go_wp2_with fail
  go_quiet ((go_at_call 36; exact Calls.quiet_of_same (hp _)))
  go_wp2_with fail
  go_ret
  exact ⟨rfl, nq, rfl⟩
end Go.Proofs.YbulkcueuDoor
