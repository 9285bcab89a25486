import Derived.Test.YbulkcueuDoorParts
namespace Go.Proofs.YbulkcueuDoor
open Go.RowKit Go.MuLone

/-- The file, its node, its file system, as the laws lay them. -/
structure File (w : World) (fb nb hb len cap : Nat) (ao : Option Addr) (dir closed : Bool) (name : ByteArray) : Prop where
  c0 : w.cell? ⟨hb, 0, none⟩ = some (.pointer (some ⟨fb, 0, none⟩))
  c1 : w.cell? ⟨hb, 1, none⟩ = some (.pointer (some ⟨nb, 0, none⟩))
  c2 : w.cell? ⟨hb, 2, none⟩ = some (.string name)
  c6 : w.cell? ⟨hb, 6, none⟩ = some (.bool closed)
  n0 : w.cell? ⟨nb, 0, none⟩ = some (.bool dir)
  n1 : w.cell? ⟨nb, 1, none⟩ = some (.slice ao len cap)
  m0 : w.cell? ⟨fb, 0, none⟩ = some (.int .i32 0)
  mz : w.frozen? ⟨fb, 0, none⟩ = false
  hfb : fb < w.heap.size
  hnb : nb < w.heap.size
  hhb : hb < w.heap.size
  fh : fb ≠ hb
  fn : fb ≠ nb

set_option maxRecDepth 100000 in
set_option maxHeartbeats 400000 in
theorem stat_open (fb nb hb len cap : Nat) (ao : Option Addr) (dir : Bool) (name : ByteArray) (hs : name.size ≤ 9223372036854775807) (w : World) (F : File w fb nb hb len cap ao dir false name) :
    Calls Ybad.prog 13 #[.pointer (some ⟨hb, 0, none⟩)] w fun e w' => e = .returned (.tuple #[.iface 69 (.agg #[.string ⟨(Lib.Pa.base name.data.toList).toArray⟩, .int .i64 len, .bool dir]), .nilIface]) ∧ Below w.heap.size w w' := by
  generalize hr : (⟨(Lib.Pa.base name.data.toList).toArray⟩ : ByteArray) = r
  have c0 := F.c0
  have e0 : (w.setCell ⟨fb, 0, none⟩ (.int .i32 1)).cell? ⟨hb, 0, none⟩ = some (.pointer (some ⟨fb, 0, none⟩)) := (World.cell?_setCell_other _ _ _ _ (by simp [F.fh])).trans F.c0
  have e1 : (w.setCell ⟨fb, 0, none⟩ (.int .i32 1)).cell? ⟨hb, 1, none⟩ = some (.pointer (some ⟨nb, 0, none⟩)) := (World.cell?_setCell_other _ _ _ _ (by simp)).trans F.c1
  have e2 : (w.setCell ⟨fb, 0, none⟩ (.int .i32 1)).cell? ⟨hb, 2, none⟩ = some (.string name) := (World.cell?_setCell_other _ _ _ _ (by simp)).trans F.c2
  have e6 : (w.setCell ⟨fb, 0, none⟩ (.int .i32 1)).cell? ⟨hb, 6, none⟩ = some (.bool false) := (World.cell?_setCell_other _ _ _ _ (by simp)).trans F.c6
  have g0 : (w.setCell ⟨fb, 0, none⟩ (.int .i32 1)).cell? ⟨nb, 0, none⟩ = some (.bool dir) := (World.cell?_setCell_other _ _ _ _ (by simp [F.fn])).trans F.n0
  have g1 : (w.setCell ⟨fb, 0, none⟩ (.int .i32 1)).cell? ⟨nb, 1, none⟩ = some (.slice ao len cap) := (World.cell?_setCell_other _ _ _ _ (by simp)).trans F.n1
  have k0 : (w.setCell ⟨fb, 0, none⟩ (.int .i32 1)).cell? ⟨fb, 0, none⟩ = some (.int .i32 1) := World.cell?_setCell_same _ _ _ F.m0
  have kz : (w.setCell ⟨fb, 0, none⟩ (.int .i32 1)).frozen? ⟨fb, 0, none⟩ = false := (World.frozen?_setCell _ _ _ _).trans F.mz
  have hrel := fun w2 => relock (w := w) (w2 := w2) (a := ⟨fb, 0, none⟩) (u := .int .i32 1) F.m0
  go_enter_defers Ybad.func13, Ybad.ntmps13
  go_wp2_with fail
  refine (lock_free Ybad.muLib ⟨fb, 0, none⟩ _ F.m0 F.mz).mono ?_
  rintro e w' ⟨rfl, rfl⟩
  have hi := fun W n (h0 : W.cell? ⟨nb, 0, none⟩ = some (.bool dir)) (h1 : W.cell? ⟨nb, 1, none⟩ = some (.slice ao len cap)) => info_any nb len cap ao dir name hs (World.drewN W n) (by simpa using h0) (by simpa using h1)
  rw [hr] at hi
  generalize w.setCell ⟨fb, 0, none⟩ (.int .i32 1) = W at *
  have HI := fun n => hi W n g0 g1
  clear hi hr
  go_wp2_with fail
  refine (usable_open hb nb dir W e1 e6 g0).mono ?_
  rintro e w' ⟨rfl, rfl⟩
  go_wp2_with fail
  go_quiet ((go_at_call 27; exact Calls.quiet_of (HI _)))
  go_wp2_with fail
  have hfin := hrel (W.drewN nq) ⟨rfl, rfl, rfl, Nat.le_refl _, fun _ _ => rfl⟩
  refine leaves_cons (f := 15) (args := #[.pointer (some ⟨fb, 0, none⟩)]) (by simp) (by simp [go_sem]) ?_
  refine (unlock_deferred Ybad.muLib ⟨fb, 0, none⟩ .returning _ ?_ ?_).mono ?_
  · simpa using k0
  · simpa using kz
  rintro e u' w'' ⟨rfl, rfl, rfl⟩
  exact ⟨_, results_tmp2 rfl _ _ _, rfl, hfin⟩

set_option maxRecDepth 100000 in
set_option maxHeartbeats 400000 in
theorem stat_closed (fb nb hb len cap : Nat) (ao : Option Addr) (dir : Bool) (name : ByteArray) (X : TypeId) (p : Addr) (w : World) (F : File w fb nb hb len cap ao dir true name) (hg3 : ¬ fb = 3)
    (hg : w.cell? ⟨3, 0, none⟩ = some (.iface X (.pointer (some p)))) :
    Calls Ybad.prog 13 #[.pointer (some ⟨hb, 0, none⟩)] w fun e w' => ∃ eb, w.heap.size ≤ eb ∧ e = .returned (.tuple #[.nilIface, .iface 37 (.pointer (some ⟨eb, 0, none⟩))]) ∧
      w'.cell? ⟨eb, 0, none⟩ = some (.string sStat) ∧ w'.cell? ⟨eb, 1, none⟩ = some (.string name) ∧ w'.cell? ⟨eb, 2, none⟩ = some (.iface X (.pointer (some p))) ∧ eb < w'.heap.size ∧ Below w.heap.size w w' := by
  have c0 := F.c0
  have e0 : (w.setCell ⟨fb, 0, none⟩ (.int .i32 1)).cell? ⟨hb, 0, none⟩ = some (.pointer (some ⟨fb, 0, none⟩)) := (World.cell?_setCell_other _ _ _ _ (by simp [F.fh])).trans F.c0
  have e2 : (w.setCell ⟨fb, 0, none⟩ (.int .i32 1)).cell? ⟨hb, 2, none⟩ = some (.string name) := (World.cell?_setCell_other _ _ _ _ (by simp)).trans F.c2
  have e6 : (w.setCell ⟨fb, 0, none⟩ (.int .i32 1)).cell? ⟨hb, 6, none⟩ = some (.bool true) := (World.cell?_setCell_other _ _ _ _ (by simp)).trans F.c6
  have k0 : (w.setCell ⟨fb, 0, none⟩ (.int .i32 1)).cell? ⟨fb, 0, none⟩ = some (.int .i32 1) := World.cell?_setCell_same _ _ _ F.m0
  have kz : (w.setCell ⟨fb, 0, none⟩ (.int .i32 1)).frozen? ⟨fb, 0, none⟩ = false := (World.frozen?_setCell _ _ _ _).trans F.mz
  have kg : (w.setCell ⟨fb, 0, none⟩ (.int .i32 1)).cell? ⟨3, 0, none⟩ = some (.iface X (.pointer (some p))) := (World.cell?_setCell_other _ _ _ _ (by simp)).trans hg
  have hsz : (w.setCell ⟨fb, 0, none⟩ (.int .i32 1)).heap.size = w.heap.size := by simp
  have hfb := F.hfb
  have hrel := fun w2 => relock (w := w) (w2 := w2) (a := ⟨fb, 0, none⟩) (u := .int .i32 1) F.m0
  go_enter_defers Ybad.func13, Ybad.ntmps13
  go_wp2_with fail
  refine (lock_free Ybad.muLib ⟨fb, 0, none⟩ _ F.m0 F.mz).mono ?_
  rintro e w' ⟨rfl, rfl⟩
  generalize w.setCell ⟨fb, 0, none⟩ (.int .i32 1) = W at *
  go_wp2_with fail
  refine (usable_closed hb sStat name X p W e2 e6 kg).mono ?_
  rintro e w' ⟨rfl, rfl⟩
  rw [hsz]
  go_wp2_with fail
  have hfin := hrel ((W.alloc (.cells #[.string sStat, .string name, .iface X (.pointer (some p))] 41)).drew) (((Below.refl _ _).alloc (Nat.le_refl _) _).drew)
  refine leaves_cons (f := 15) (args := #[.pointer (some ⟨fb, 0, none⟩)]) (by simp) (by simp [go_sem]) ?_
  refine (unlock_deferred Ybad.muLib ⟨fb, 0, none⟩ .returning _ ?_ ?_).mono ?_
  · show (W.alloc _).cell? _ = _
    rw [World.cell?_alloc_past _ _ _ (by omega)]; exact k0
  · show (W.alloc _).frozen? _ = _
    rw [World.frozen?_alloc_past _ _ _ (by omega)]; exact kz
  rintro e u' w'' ⟨rfl, rfl, rfl⟩
  refine ⟨_, results_tmp2 rfl _ _ _, w.heap.size, Nat.le_refl _, rfl, ?_, ?_, ?_, ?_, hfin⟩
  · rw [World.cell?_setCell_other _ _ _ _ (by simp)]
    show (W.alloc _).cell? _ = _
    rw [← hsz]; simp
  · rw [World.cell?_setCell_other _ _ _ _ (by simp)]
    show (W.alloc _).cell? _ = _
    rw [← hsz]; simp
  · rw [World.cell?_setCell_other _ _ _ _ (by simp)]
    show (W.alloc _).cell? _ = _
    rw [← hsz]; simp
  · have : w.heap.size < (W.alloc (.cells #[.string sStat, .string name, .iface X (.pointer (some p))] 41)).heap.size := by simp; omega
    simpa using this
end Go.Proofs.YbulkcueuDoor
