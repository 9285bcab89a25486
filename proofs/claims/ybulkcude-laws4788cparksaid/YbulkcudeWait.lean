import Derived.Test.YbulkcudeRows
import Derived.WalkKit
import Derived.WalkSpells
import Derived.WalkLawsBesides
namespace Go.Proofs.Ybulkcude
open Go.RowKit
theorem Yba.info3 : (Yba.prog.info? 3).map (fun i => (i.zero, i.size, i.bytes)) = some (some (.int .i64 0), 1, 8) := by kernel_rfl


/-- Below 'base', but for block 'lb', the world is as it was. -/
structure Side (base lb : Nat) (w w' : World) : Prop where
  os : w'.os = w.os
  tape : w'.tape = w.tape
  output : w'.output = w.output
  size : w.heap.size ≤ w'.heap.size
  block : ∀ k, k < base → k ≠ lb → w'.heap[k]? = w.heap[k]?
theorem Side.of {base lb : Nat} {w w' : World} (h : Below base w w') : Side base lb w w' := ⟨h.os, h.tape, h.output, h.size, fun k hk _ => h.block k hk⟩
theorem Side.setCell {base lb : Nat} {w w' : World} (h : Side base lb w w') (o : Nat) (v : Value) : Side base lb w (w'.setCell ⟨lb, o, none⟩ v) :=
  ⟨h.os, h.tape, h.output, by simpa [World.setCell] using h.size, fun k hk hn => (Below.heap_setCell w' ⟨lb, o, none⟩ v k hn).trans (h.block k hk hn)⟩
theorem Side.trans {base lb : Nat} {a b c : World} (h : Side base lb a b) (k : Side base lb b c) : Side base lb a c :=
  ⟨k.os.trans h.os, k.tape.trans h.tape, k.output.trans h.output, Nat.le_trans h.size k.size, fun i hi hn => (k.block i hi hn).trans (h.block i hi hn)⟩
theorem Side.cell {base lb : Nat} {w w' : World} (h : Side base lb w w') {b : Nat} (o : Nat) (hb : b < base) (hn : b ≠ lb) : w'.cell? ⟨b, o, none⟩ = w.cell? ⟨b, o, none⟩ :=
  World.cell?_of_block (w := w) (h.block b hb hn)
theorem Side.frozen {base lb : Nat} {w w' : World} (h : Side base lb w w') {b : Nat} (o : Nat) (hb : b < base) (hn : b ≠ lb) : w'.frozen? ⟨b, o, none⟩ = w.frozen? ⟨b, o, none⟩ :=
  World.frozen?_of_block (w := w) (h.block b hb hn)
theorem Side.below {base lb N : Nat} {w w' : World} (h : Side base lb w w') (h1 : N ≤ base) (h2 : N ≤ lb) : Below N w w' :=
  ⟨h.os, h.tape, h.output, h.size, fun k hk => h.block k (by omega) (by omega)⟩

theorem load_any (a : Nat) (off : Nat) (x : Int) (w : World) (hc : w.cell? ⟨a, off, none⟩ = some (.int .u64 x)) :
    Calls Yba.prog 6 #[.pointer (some ⟨a, off, none⟩)] w fun e w' => e = .returned (.int .u64 x) ∧ w = w' := by
  have hl := run_call_load (P := Yba.prog) Yba.func14 (by kernel_rfl) (by kernel_rfl) (by kernel_rfl) .u64 (by kernel_rfl) hc
  go_enter Yba.func6, Yba.ntmps6
  go_wp2
  go_ret
  exact ⟨rfl, rfl⟩

theorem add_any (a : Nat) (off : Nat) (x : Int) (h0 : 0 ≤ x) (h1 : x < 1000) (w : World) (hc : w.cell? ⟨a, off, none⟩ = some (.int .u64 x)) (hz : w.frozen? ⟨a, off, none⟩ = false) :
    Calls Yba.prog 5 #[.pointer (some ⟨a, off, none⟩), .int .u64 1] w fun e w' => e = .returned (.int .u64 (x+1)) ∧ w.setCell ⟨a, off, none⟩ (.int .u64 (x+1)) = w' := by
  have hl := run_call_add (P := Yba.prog) Yba.func13 (by kernel_rfl) (by kernel_rfl) (by kernel_rfl) .u64 (by kernel_rfl) (y := 1) (s := x + 1) hc hz (by simp [go_sem, IntKind.wrap]; rw [if_neg (by simp [IntKind.signed])]; omega)
  go_enter Yba.func5, Yba.ntmps5
  go_wp2
  go_ret
  exact ⟨rfl, rfl⟩

set_option maxHeartbeats 400000 in
theorem lock_any (lb n cap base : Nat) (ao : Option Addr) (xs : List Value) (w : World) (hlb : lb < base) (hbase : base ≤ w.heap.size) (hn : n ≤ 5)
    (hc : w.cell? ⟨lb, 0, none⟩ = some (.slice ao n cap)) (hf : w.frozen? ⟨lb, 0, none⟩ = false) (hown : w.ownsRow base 3 1 (.slice ao n cap) n xs) :
    Calls Yba.prog 50 #[.pointer (some ⟨lb, 0, none⟩)] w fun e w' => e = .returned (.tuple #[]) ∧ ∃ g cap', w'.ownsRow base 3 1 (.slice (some ⟨g, 0, none⟩) (n + 1) cap') (n + 1) (xs ++ [.int .i64 1]) ∧ Side base lb w w' ∧ w'.cell? ⟨lb, 0, none⟩ = some (.slice (some ⟨g, 0, none⟩) (n + 1) cap') ∧ w'.frozen? ⟨lb, 0, none⟩ = false := by
  obtain ⟨i0, hi, hz0, hz1, hz2⟩ := info_parts Yba.info3
  go_enter Yba.func50, Yba.ntmps50
  go_wp2_with (at_builtin; refine wpList_append_own _ rfl (.tmp 6) (.tmp 7) 73 rfl base 3 i0 (.int .i64 0) 1 8 Yba.underlying73 hi hz0 hz1 hz2 rfl (by decide) (.slice ao n cap) n xs rfl (hown.alloc _) ⟨w.heap.size, 0, none⟩ 1 1 [.int .i64 1] rfl rfl ?c1 ?c2 ?b1 ?b2 ?b3 ?next)
  case c1 => intro j u hj; match j, hj with | 0, hj => simp at hj; subst hj; simp [Addr.add]
  case c2 => intro u hu; simp at hu; subst hu; rfl
  case b1 => unfold maxLen; omega
  case b2 => omega
  case b3 => simp; omega
  case next =>
    intro v' w' ho hg hne
    have hlt := hown.lt
    have hbel : Below base w w' := ((Below.refl _ _).alloc hbase _).grown hg (by simp; omega) (fun k h => (hlt k h).1)
    obtain ⟨g, cap', rfl⟩ : ∃ g cap', v' = .slice (some ⟨g, 0, none⟩) (n + 1) cap' := by
      rcases ho.2 with ⟨_, h⟩ | ⟨g, cap', _, h, _⟩
      · omega
      · exact ⟨g, cap', h⟩
    have k0 := (hbel.cell (p := ⟨lb, 0, none⟩) hlb).trans hc
    have e0 := (hbel.frozen (p := ⟨lb, 0, none⟩) hlb).trans hf
    go_wp2
    go_end0
    exact ⟨rfl, g, cap', ownsRow_setCell_below ho hlb _, (Side.of hbel).setCell _ _, World.cell?_setCell_same _ _ _ k0, (World.frozen?_setCell _ _ _ _).trans e0⟩

set_option maxHeartbeats 400000 in
theorem unlock_any (lb n cap base : Nat) (ao : Option Addr) (xs : List Value) (w : World) (hlb : lb < base) (hbase : base ≤ w.heap.size) (hn : n ≤ 5)
    (hc : w.cell? ⟨lb, 0, none⟩ = some (.slice ao n cap)) (hf : w.frozen? ⟨lb, 0, none⟩ = false) (hown : w.ownsRow base 3 1 (.slice ao n cap) n xs) :
    Calls Yba.prog 51 #[.pointer (some ⟨lb, 0, none⟩)] w fun e w' => e = .returned (.tuple #[]) ∧ ∃ g cap', w'.ownsRow base 3 1 (.slice (some ⟨g, 0, none⟩) (n + 1) cap') (n + 1) (xs ++ [.int .i64 2]) ∧ Side base lb w w' ∧ w'.cell? ⟨lb, 0, none⟩ = some (.slice (some ⟨g, 0, none⟩) (n + 1) cap') ∧ w'.frozen? ⟨lb, 0, none⟩ = false := by
  obtain ⟨i0, hi, hz0, hz1, hz2⟩ := info_parts Yba.info3
  go_enter Yba.func51, Yba.ntmps51
  go_wp2_with (at_builtin; refine wpList_append_own _ rfl (.tmp 6) (.tmp 7) 73 rfl base 3 i0 (.int .i64 0) 1 8 Yba.underlying73 hi hz0 hz1 hz2 rfl (by decide) (.slice ao n cap) n xs rfl (hown.alloc _) ⟨w.heap.size, 0, none⟩ 1 1 [.int .i64 2] rfl rfl ?c1 ?c2 ?b1 ?b2 ?b3 ?next)
  case c1 => intro j u hj; match j, hj with | 0, hj => simp at hj; subst hj; simp [Addr.add]
  case c2 => intro u hu; simp at hu; subst hu; rfl
  case b1 => unfold maxLen; omega
  case b2 => omega
  case b3 => simp; omega
  case next =>
    intro v' w' ho hg hne
    have hlt := hown.lt
    have hbel : Below base w w' := ((Below.refl _ _).alloc hbase _).grown hg (by simp; omega) (fun k h => (hlt k h).1)
    obtain ⟨g, cap', rfl⟩ : ∃ g cap', v' = .slice (some ⟨g, 0, none⟩) (n + 1) cap' := by
      rcases ho.2 with ⟨_, h⟩ | ⟨g, cap', _, h, _⟩
      · omega
      · exact ⟨g, cap', h⟩
    have k0 := (hbel.cell (p := ⟨lb, 0, none⟩) hlb).trans hc
    have e0 := (hbel.frozen (p := ⟨lb, 0, none⟩) hlb).trans hf
    go_wp2
    go_end0
    exact ⟨rfl, g, cap', ownsRow_setCell_below ho hlb _, (Side.of hbel).setCell _ _, World.cell?_setCell_same _ _ _ k0, (World.frozen?_setCell _ _ _ _).trans e0⟩

theorem settled_yes (sb : Nat) (x : Int) (w : World) (h0 : w.cell? ⟨sb, 174, none⟩ = some (.int .u64 x)) (h1 : w.cell? ⟨sb, 175, none⟩ = some (.int .u64 x)) :
    Calls Yba.prog 15 #[.pointer (some ⟨sb, 0, none⟩)] w fun e w' => e = .returned (.bool true) ∧ w = w' := by
  go_enter Yba.func15, Yba.ntmps15
  go_wp2_with fail
  refine (load_any _ _ _ _ h1).mono ?_
  rintro e w' ⟨rfl, rfl⟩
  go_wp2_with fail
  refine (load_any _ _ _ _ h0).mono ?_
  rintro e w' ⟨rfl, rfl⟩
  go_wp2_with fail
  go_ret
  exact ⟨by simp, rfl⟩


theorem method_lock (a : Addr) (w : World) : (method 257 72 (.pointer (some a)) "Lock").run Yba.prog w = .ok (50, .pointer (some a)) w := by kernel_rfl
theorem method_unlock (a : Addr) (w : World) : (method 257 72 (.pointer (some a)) "Unlock").run Yba.prog w = .ok (51, .pointer (some a)) w := by kernel_rfl

set_option maxRecDepth 100000 in
set_option maxHeartbeats 400000 in
theorem wait_any (sb lb base : Nat) (x : Int) (w : World) (hsb : sb < base) (hlb : lb < base) (hne : sb ≠ lb) (hbase : base ≤ w.heap.size)
    (h0 : w.cell? ⟨sb, 174, none⟩ = some (.int .u64 x)) (h1 : w.cell? ⟨sb, 175, none⟩ = some (.int .u64 x)) (h2 : w.cell? ⟨sb, 182, none⟩ = some (.iface 72 (.pointer (some ⟨lb, 0, none⟩))))
    (hc : w.cell? ⟨lb, 0, none⟩ = some (.slice none 0 0)) (hf : w.frozen? ⟨lb, 0, none⟩ = false) :
    Calls Yba.prog 7 #[.pointer (some ⟨sb, 0, none⟩)] w fun e w' => e = .returned (.tuple #[]) ∧ Side base lb w w' ∧
      ∃ g cap, w'.ownsRow base 3 1 (.slice (some ⟨g, 0, none⟩) 2 cap) 2 [.int .i64 1, .int .i64 2] ∧ w'.cell? ⟨lb, 0, none⟩ = some (.slice (some ⟨g, 0, none⟩) 2 cap) := by
  have hm1 := method_lock
  have hm2 := method_unlock
  go_enter Yba.func7, Yba.ntmps7
  go_wp2_with fail
  refine (lock_any lb 0 0 base none [] w hlb hbase (by omega) hc hf (World.ownsRow_nil _ _ _ _)).mono ?_
  rintro e w' ⟨rfl, g, cap', ho, hs, hc', hf'⟩
  have c0 := (hs.cell 174 hsb hne).trans h0
  have c1 := (hs.cell 175 hsb hne).trans h1
  have c2 := (hs.cell 182 hsb hne).trans h2
  have hsz := hs.size
  go_wp2_with fail
  refine wp_loop_rounds 1 ?_
  rw [rounds_succ]
  go_wp2_with fail
  refine (settled_yes sb x w' c0 c1).mono ?_
  rintro e w2 ⟨rfl, rfl⟩
  go_wp2_with fail
  refine (unlock_any lb 1 cap' base (some ⟨g, 0, none⟩) [.int .i64 1] w' hlb (by omega) (by omega) hc' hf' ho).mono ?_
  rintro e w2 ⟨rfl, g2, cap2, ho2, hs2, hc2, hf2⟩
  go_wp2_with fail
  go_end0
  exact ⟨rfl, hs.trans hs2, g2, cap2, ho2, hc2⟩

section
variable {P : Program} {ops : Array Oper} {Q : Exit → Act → World → Prop} {a : Act} {w : World} {rest : List Oper} {o : Oper}
theorem wpList_build0 (hg : o.guard = none) (t : TypeId) (ho : o.op = .build t #[]) (z : Value) (hr : ∀ w, (Instr.build t #[]).run P w = .ok z w)
    (h : wpList P ops Q rest (a.put o.dst z) w) : wpList P ops Q (o :: rest) a w :=
  wpList_plain hg fun K hK => by
    unfold Oper.wp execOp
    have e : (#[] : Array (Nat × Operand)).map (fun p => (p.1, a.eval p.2)) = #[]  := by simp
    simp only [ho, Sem.run_bind, Sem.run_pure, e, hr, Result.andThen_ok]
    exact hK _ _ h
theorem wpList_box0 (hg : o.guard = none) (t : TypeId) (x : Operand) (ho : o.op = .box t x) (z : Value) (hx : a.eval x = z) (cs : Array Value) (hr : ∀ w, (Instr.box t z).run P w = .ok (.pointer (some ⟨w.heap.size, 0, none⟩)) (w.alloc (.cells cs t)))
    (h : wpList P ops Q rest (a.put o.dst (.pointer (some ⟨w.heap.size, 0, none⟩))) (w.alloc (.cells cs t))) : wpList P ops Q (o :: rest) a w :=
  wpList_plain hg fun K hK => by
    unfold Oper.wp execOp
    simp only [ho, Sem.run_bind, Sem.run_pure, hx, hr, Result.andThen_ok]
    exact hK _ _ h
end

theorem zero70 : ∃ (z : Value) (cs : Array Value), (∀ w, (Instr.build 70 #[]).run Yba.prog w = .ok z w) ∧ (∀ w, (Instr.box 70 z).run Yba.prog w = .ok (.pointer (some ⟨w.heap.size, 0, none⟩)) (w.alloc (.cells cs 70))) ∧
    cs[174]? = some (.int .u64 0) ∧ cs[175]? = some (.int .u64 0) ∧ cs[178]? = some (.int .i64 0) ∧ cs[182]? = some .nilIface :=
  ⟨.agg (((Yba.prog.info? 70).bind (·.zero)).getD (.tuple #[])).cells, (((Yba.prog.info? 70).bind (·.zero)).getD (.tuple #[])).cells, fun _ => by kernel_rfl, fun _ => by kernel_rfl, by kernel_rfl, by kernel_rfl, by kernel_rfl, by kernel_rfl⟩

end Go.Proofs.Ybulkcude
