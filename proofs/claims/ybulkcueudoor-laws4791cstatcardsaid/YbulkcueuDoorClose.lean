import Derived.Test.YbulkcueuDoorStat
namespace Go.Proofs.YbulkcueuDoor
open Go.RowKit Go.MuLone

theorem assert37 (a : Addr) (w : World) : (Instr.typeAssert (.iface 37 (.pointer (some a))) 33 37 true).run Ybad.prog w = .ok (.tuple #[.pointer (some a), .bool true]) w := by kernel_rfl
theorem assert69 (x : Value) (n : Int) (d : Bool) (w : World) : (Instr.typeAssert (.iface 69 (.agg #[x, .int .i64 n, .bool d])) 63 69 true).run Ybad.prog w = .ok (.tuple #[.agg #[x, .int .i64 n, .bool d], .bool true]) w := by kernel_rfl

set_option maxRecDepth 100000 in
set_option maxHeartbeats 400000 in
theorem closederr_any (eb : Nat) (name : ByteArray) (X : TypeId) (p : Addr) (w : World) (heq : ∀ w, (binOp .eql 33 (.iface X (.pointer (some p))) (.iface X (.pointer (some p)))).run Ybad.prog w = .ok (.bool true) w)
    (c0 : w.cell? ⟨eb, 0, none⟩ = some (.string sStat)) (c1 : w.cell? ⟨eb, 1, none⟩ = some (.string name)) (c2 : w.cell? ⟨eb, 2, none⟩ = some (.iface X (.pointer (some p)))) (hg : w.cell? ⟨3, 0, none⟩ = some (.iface X (.pointer (some p)))) :
    Calls Ybad.prog 16 #[.nilIface, .iface 37 (.pointer (some ⟨eb, 0, none⟩)), .string name] w fun e w' => e = .returned (.bool true) ∧ ∃ n, w' = w.drewN n := by
  have ha := assert37
  have hnot : ∀ (x : Bool) (w : World), (Op.unary .not (.bool x)).run Ybad.prog w = .ok (.bool (!x)) w := fun _ _ => rfl
  go_enter Ybad.func16, Ybad.ntmps16
  go_wp2_with fail
  go_quiet (fail)
  go_wp2_with fail
  go_ret
  exact ⟨rfl, nq, rfl⟩

theorem setCell_swap (w : World) (a b : Addr) (u v : Value) (h : a.block ≠ b.block) : (w.setCell a u).setCell b v = (w.setCell b v).setCell a u := by
  have e : ((w.setCell a u).setCell b v).heap = ((w.setCell b v).setCell a u).heap := by
    apply Array.ext_getElem?
    intro i
    unfold World.setCell
    simp only [Array.getElem?_modify]
    by_cases h1 : a.block = i
    · have h2 : ¬ b.block = i := by omega
      simp [h1, h2]
    · by_cases h2 : b.block = i
      · simp [h1, h2]
      · simp [h1, h2]
  unfold World.setCell at e ⊢
  simp only at e ⊢
  rw [e]

set_option maxRecDepth 100000 in
set_option maxHeartbeats 400000 in
theorem usable_close (hb nb : Nat) (dir : Bool) (w : World) (c1 : w.cell? ⟨hb, 1, none⟩ = some (.pointer (some ⟨nb, 0, none⟩))) (c6 : w.cell? ⟨hb, 6, none⟩ = some (.bool false)) (n0 : w.cell? ⟨nb, 0, none⟩ = some (.bool dir)) :
    Calls Ybad.prog 26 #[.pointer (some ⟨hb, 0, none⟩), .string sClose] w fun e w' => e = .returned .nilIface ∧ w = w' := by
  cases dir
  · go_enter Ybad.func26, Ybad.ntmps26
    go_wp2_with fail
    go_ret
    exact ⟨rfl, rfl⟩
  · go_enter Ybad.func26, Ybad.ntmps26
    go_wp2_with fail
    go_ret
    exact ⟨rfl, rfl⟩

/-- What Close leaves, but for the lock, which is as it was. -/
def shut (w : World) (nb hb : Nat) (lock : Bool) : World :=
  if lock then (w.setCell ⟨hb, 6, none⟩ (.bool true)).setCell ⟨nb, 7, none⟩ (.bool false) else w.setCell ⟨hb, 6, none⟩ (.bool true)

set_option maxRecDepth 100000 in
set_option maxHeartbeats 400000 in
theorem close_any (fb nb hb len cap : Nat) (ao : Option Addr) (dir lock locked : Bool) (name : ByteArray) (w : World) (F : File w fb nb hb len cap ao dir false name)
    (c4 : w.cell? ⟨hb, 4, none⟩ = some (.bool lock)) (n7 : w.cell? ⟨nb, 7, none⟩ = some (.bool locked)) (z6 : w.frozen? ⟨hb, 6, none⟩ = false) (z7 : w.frozen? ⟨nb, 7, none⟩ = false) :
    Calls Ybad.prog 18 #[.pointer (some ⟨hb, 0, none⟩)] w fun e w' => e = .returned .nilIface ∧ Below w.heap.size (shut w nb hb lock) w' := by
  have e0 : (w.setCell ⟨fb, 0, none⟩ (.int .i32 1)).cell? ⟨hb, 0, none⟩ = some (.pointer (some ⟨fb, 0, none⟩)) := (World.cell?_setCell_other _ _ _ _ (by simp [F.fh])).trans F.c0
  have e1 : (w.setCell ⟨fb, 0, none⟩ (.int .i32 1)).cell? ⟨hb, 1, none⟩ = some (.pointer (some ⟨nb, 0, none⟩)) := (World.cell?_setCell_other _ _ _ _ (by simp)).trans F.c1
  have e4 : (w.setCell ⟨fb, 0, none⟩ (.int .i32 1)).cell? ⟨hb, 4, none⟩ = some (.bool lock) := (World.cell?_setCell_other _ _ _ _ (by simp)).trans c4
  have e6 : (w.setCell ⟨fb, 0, none⟩ (.int .i32 1)).cell? ⟨hb, 6, none⟩ = some (.bool false) := (World.cell?_setCell_other _ _ _ _ (by simp)).trans F.c6
  have g0 : (w.setCell ⟨fb, 0, none⟩ (.int .i32 1)).cell? ⟨nb, 0, none⟩ = some (.bool dir) := (World.cell?_setCell_other _ _ _ _ (by simp [F.fn])).trans F.n0
  have g7 : (w.setCell ⟨fb, 0, none⟩ (.int .i32 1)).cell? ⟨nb, 7, none⟩ = some (.bool locked) := (World.cell?_setCell_other _ _ _ _ (by simp)).trans n7
  have y6 : (w.setCell ⟨fb, 0, none⟩ (.int .i32 1)).frozen? ⟨hb, 6, none⟩ = false := (World.frozen?_setCell _ _ _ _).trans z6
  have y7 : (w.setCell ⟨fb, 0, none⟩ (.int .i32 1)).frozen? ⟨nb, 7, none⟩ = false := (World.frozen?_setCell _ _ _ _).trans z7
  have c0 := F.c0
  have fh := F.fh
  have fn := F.fn
  go_enter_defers Ybad.func18, Ybad.ntmps18
  go_wp2_with fail
  refine (lock_free Ybad.muLib ⟨fb, 0, none⟩ _ F.m0 F.mz).mono ?_
  rintro e w' ⟨rfl, rfl⟩
  go_wp2_with fail
  refine (usable_close hb nb dir _ e1 e6 g0).mono ?_
  rintro e w' ⟨rfl, rfl⟩
  cases lock
  · go_wp2_with fail
    rw [setCell_swap w ⟨fb, 0, none⟩ ⟨hb, 6, none⟩ _ _ fh]
    have k0 : (w.setCell ⟨hb, 6, none⟩ (.bool true)).cell? ⟨fb, 0, none⟩ = some (.int .i32 0) := (World.cell?_setCell_other _ _ _ _ (by simp)).trans F.m0
    have kz : (w.setCell ⟨hb, 6, none⟩ (.bool true)).frozen? ⟨fb, 0, none⟩ = false := (World.frozen?_setCell _ _ _ _).trans F.mz
    have hsz : (w.setCell ⟨hb, 6, none⟩ (.bool true)).heap.size = w.heap.size := by simp
    show bodyPostD Ybad.prog Ybad.f18 (fun e w' => e = Ending.returned Value.nilIface ∧ Below w.heap.size (w.setCell ⟨hb, 6, none⟩ (.bool true)) w') _ _ _
    generalize w.setCell ⟨hb, 6, none⟩ (.bool true) = V at *
    have hfin := relock (w := V) (w2 := V.setCell ⟨fb, 0, none⟩ (.int .i32 1)) (a := ⟨fb, 0, none⟩) (u := .int .i32 1) k0 (Below.refl _ _)
    rw [hsz] at hfin
    refine leaves_cons (f := 15) (args := #[.pointer (some ⟨fb, 0, none⟩)]) (by simp) (by simp [go_sem]) ?_
    refine (unlock_deferred Ybad.muLib ⟨fb, 0, none⟩ .returning _ (World.cell?_setCell_same _ _ _ k0) ((World.frozen?_setCell _ _ _ _).trans kz)).mono ?_
    rintro e u' w'' ⟨rfl, rfl, rfl⟩
    exact ⟨_, results_tmp rfl _ _ _, rfl, hfin⟩
  · go_wp2_with fail
    rw [setCell_swap w ⟨fb, 0, none⟩ ⟨hb, 6, none⟩ _ _ fh, setCell_swap _ ⟨fb, 0, none⟩ ⟨nb, 7, none⟩ _ _ fn]
    have k0 : ((w.setCell ⟨hb, 6, none⟩ (.bool true)).setCell ⟨nb, 7, none⟩ (.bool false)).cell? ⟨fb, 0, none⟩ = some (.int .i32 0) := (World.cell?_setCell_other _ _ _ _ (by simp)).trans ((World.cell?_setCell_other _ _ _ _ (by simp)).trans F.m0)
    have kz : ((w.setCell ⟨hb, 6, none⟩ (.bool true)).setCell ⟨nb, 7, none⟩ (.bool false)).frozen? ⟨fb, 0, none⟩ = false := (World.frozen?_setCell _ _ _ _).trans ((World.frozen?_setCell _ _ _ _).trans F.mz)
    have hsz : ((w.setCell ⟨hb, 6, none⟩ (.bool true)).setCell ⟨nb, 7, none⟩ (.bool false)).heap.size = w.heap.size := by simp
    show bodyPostD Ybad.prog Ybad.f18 (fun e w' => e = Ending.returned Value.nilIface ∧ Below w.heap.size ((w.setCell ⟨hb, 6, none⟩ (.bool true)).setCell ⟨nb, 7, none⟩ (.bool false)) w') _ _ _
    generalize (w.setCell ⟨hb, 6, none⟩ (.bool true)).setCell ⟨nb, 7, none⟩ (.bool false) = V at *
    have hfin := relock (w := V) (w2 := V.setCell ⟨fb, 0, none⟩ (.int .i32 1)) (a := ⟨fb, 0, none⟩) (u := .int .i32 1) k0 (Below.refl _ _)
    rw [hsz] at hfin
    refine leaves_cons (f := 15) (args := #[.pointer (some ⟨fb, 0, none⟩)]) (by simp) (by simp [go_sem]) ?_
    refine (unlock_deferred Ybad.muLib ⟨fb, 0, none⟩ .returning _ (World.cell?_setCell_same _ _ _ k0) ((World.frozen?_setCell _ _ _ _).trans kz)).mono ?_
    rintro e u' w'' ⟨rfl, rfl, rfl⟩
    exact ⟨_, results_tmp rfl _ _ _, rfl, hfin⟩
end Go.Proofs.YbulkcueuDoor
