import Derived.Test.YbulkcudePark
namespace Go.Proofs.Ybulkcude
open Go.RowKit

theorem equalIn_chan (d : Nat) (c : Option Nat) (w : World) : (Op.equalIn (d + 1) 45 (.chan c) (.chan c)).run Yba.prog w = .ok true w := by
  simp [Op.equalIn, run_underlying Yba.underlying45]
theorem chan_eq (c : Option Nat) (w : World) : (binOp .eql 45 (.chan c) (.chan c)).run Yba.prog w = .ok (.bool true) w := by
  simp only [binOp]
  simp [Op.equal, Op.maxDepth, equalIn_chan 9999 c w]
theorem chan_ne (c : Option Nat) (w : World) : (binOp .neq 45 (.chan c) (.chan c)).run Yba.prog w = .ok (.bool false) w := by
  simp only [binOp]
  simp [Op.equal, Op.maxDepth, equalIn_chan 9999 c w]
theorem func_ne (w : World) : (binOp .neq 79 .nilFunc .nilFunc).run Yba.prog w = .ok (.bool false) w := by kernel_rfl
theorem notb (x : Bool) (w : World) : (Op.unary .not (.bool x)).run Yba.prog w = .ok (.bool (!x)) w := rfl

theorem cap_chan (c : Nat) (w : World) (h : w.heap[c]? = some (.chan 1 #[] false 0 0 false)) : (Builtin.cap_ #[45] 3 #[.chan (some c)]).run Yba.prog w = .ok (.int .i64 1) w := by
  have hg : (getObj c).run Yba.prog w = .ok (.chan 1 #[] false 0 0 false) w := by
    simp [getObj, Sem.run, h]
  simp [Builtin.cap_, run_underlying Yba.underlying45, hg, goInt]
structure AtPark (w W : World) (a3 k st : Int) (r : Option Nat) : Prop where
  bel : Below w.heap.size w W
  sz : w.heap.size + 2 ≤ W.heap.size
  t0 : W.cell? ⟨w.heap.size + 1, 0, none⟩ = some (.int .u64 a3)
  t1 : W.cell? ⟨w.heap.size + 1, 1, none⟩ = some .nilFunc
  t2 : W.cell? ⟨w.heap.size + 1, 2, none⟩ = some (.pointer none)
  t3 : W.cell? ⟨w.heap.size + 1, 3, none⟩ = some (.int .i32 st)
  t4 : W.cell? ⟨w.heap.size + 1, 4, none⟩ = some (.chan r)
  t5 : W.cell? ⟨w.heap.size + 1, 5, none⟩ = some (.pointer none)
  s : W.cell? ⟨w.heap.size, 178, none⟩ = some (.int .i64 k)
  ft : ∀ o, W.frozen? ⟨w.heap.size + 1, o, none⟩ = false
  fs : ∀ o, W.frozen? ⟨w.heap.size, o, none⟩ = false
  ch : ∀ c, r = some c → W.heap[c]? = some (.chan 1 #[] false 0 0 false) ∧ w.heap.size + 2 ≤ c

theorem cell_alloc_eq' {w : World} {n : Nat} (h : w.heap.size = n) (c : Array Value) (t : TypeId) (o : Nat) : (w.alloc (.cells c t)).cell? ⟨n, o, none⟩ = c[o]? := by
  subst h; simp

theorem AtPark.start (w wr : World) (a3 k : Int) (hb : Below w.heap.size w wr) (hsz : wr.heap.size = w.heap.size + 1) (c0 : wr.cell? ⟨w.heap.size, 178, none⟩ = some (.int .i64 k)) (hfz : ∀ o, wr.frozen? ⟨w.heap.size, o, none⟩ = false) :
    AtPark w (wr.alloc (.cells #[.int .u64 a3, .nilFunc, .pointer none, .int .i32 0, .chan none, .pointer none] 82)) a3 k 0 none := by
  refine ⟨hb.alloc (by omega) _, by simp; omega, ?_, ?_, ?_, ?_, ?_, ?_, ?_, ?_, ?_, ?_⟩
  iterate 6 (rw [cell_alloc_eq' hsz]; rfl)
  · rw [World.cell?_alloc_past _ _ _ (by omega)]; exact c0
  · intro o
    have e : wr.heap[w.heap.size + 1]? = none := by simp; omega
    rw [frozen?_alloc_cells]; simp [World.frozen?, e]
  · intro o
    rw [frozen?_alloc_cells]; exact hfz o
  · intro c h; cases h

theorem AtPark.startc (w wr : World) (a3 k : Int) (hb : Below w.heap.size w wr) (hsz : wr.heap.size = w.heap.size + 1) (c0 : wr.cell? ⟨w.heap.size, 178, none⟩ = some (.int .i64 k)) (hfz : ∀ o, wr.frozen? ⟨w.heap.size, o, none⟩ = false) :
    AtPark w ((wr.alloc (.cells #[.int .u64 a3, .nilFunc, .pointer none, .int .i32 0, .chan (some (w.heap.size + 1 + 1)), .pointer none] 82)).alloc (.chan 1 #[] false 0 0 false)) a3 k 0 (some (w.heap.size + 1 + 1)) := by
  refine ⟨(hb.alloc (by omega) _).alloc (by simp; omega) _, by simp; omega, ?_, ?_, ?_, ?_, ?_, ?_, ?_, ?_, ?_, ?_⟩
  iterate 6 (rw [World.cell?_alloc_past _ _ _ (by simp; omega), cell_alloc_eq' hsz]; rfl)
  · rw [World.cell?_alloc_past _ _ _ (by simp; omega), World.cell?_alloc_past _ _ _ (by omega)]; exact c0
  · intro o
    have e : wr.heap[w.heap.size + 1]? = none := by simp; omega
    rw [World.frozen?_alloc_past _ _ _ (by simp; omega), frozen?_alloc_cells]; simp [World.frozen?, e]
  · intro o
    rw [World.frozen?_alloc_past _ _ _ (by simp; omega), frozen?_alloc_cells]; exact hfz o
  · intro c h
    cases h
    refine ⟨?_, by omega⟩
    have e : w.heap.size + 1 + 1 = (wr.alloc (.cells #[.int .u64 a3, .nilFunc, .pointer none, .int .i32 0, .chan (some (w.heap.size + 1 + 1)), .pointer none] 82)).heap.size := by simp; omega
    exact (congrArg (fun n => (World.alloc _ _).heap[n]?) e).trans (MapKept.heap_alloc _ _).1

theorem AtPark.state {w W : World} {a3 k st : Int} {r : Option Nat} (h : AtPark w W a3 k st r) (y : Int) : AtPark w (W.setCell ⟨w.heap.size + 1, 3, none⟩ (.int .i32 y)) a3 k y r := by
  have hs := h.sz
  refine ⟨h.bel.setCell (by simp) _, by simpa using h.sz, ?_, ?_, ?_, World.cell?_setCell_same _ _ _ h.t3, ?_, ?_, ?_, ?_, ?_, ?_⟩
  · rw [World.cell?_setCell_other _ _ _ _ (by simp)]; exact h.t0
  · rw [World.cell?_setCell_other _ _ _ _ (by simp)]; exact h.t1
  · rw [World.cell?_setCell_other _ _ _ _ (by simp)]; exact h.t2
  · rw [World.cell?_setCell_other _ _ _ _ (by simp)]; exact h.t4
  · rw [World.cell?_setCell_other _ _ _ _ (by simp)]; exact h.t5
  · rw [World.cell?_setCell_other _ _ _ _ (by simp)]; exact h.s
  · intro o; rw [World.frozen?_setCell]; exact h.ft o
  · intro o; rw [World.frozen?_setCell]; exact h.fs o
  · intro c hc
    have := h.ch c hc
    rw [Below.heap_setCell _ _ _ _ (by simp; omega)]
    exact this

theorem AtPark.count {w W : World} {a3 k st : Int} {r : Option Nat} (h : AtPark w W a3 k st r) (y : Int) : AtPark w (W.setCell ⟨w.heap.size, 178, none⟩ (.int .i64 y)) a3 y st r := by
  have hs := h.sz
  refine ⟨h.bel.setCell (by simp) _, by simpa using h.sz, ?_, ?_, ?_, ?_, ?_, ?_, World.cell?_setCell_same _ _ _ h.s, ?_, ?_, ?_⟩
  · rw [World.cell?_setCell_other _ _ _ _ (by simp)]; exact h.t0
  · rw [World.cell?_setCell_other _ _ _ _ (by simp)]; exact h.t1
  · rw [World.cell?_setCell_other _ _ _ _ (by simp)]; exact h.t2
  · rw [World.cell?_setCell_other _ _ _ _ (by simp)]; exact h.t3
  · rw [World.cell?_setCell_other _ _ _ _ (by simp)]; exact h.t4
  · rw [World.cell?_setCell_other _ _ _ _ (by simp)]; exact h.t5
  · intro o; rw [World.frozen?_setCell]; exact h.ft o
  · intro o; rw [World.frozen?_setCell]; exact h.fs o
  · intro c hc
    have := h.ch c hc
    rw [Below.heap_setCell _ _ _ _ (by simp; omega)]
    exact this

theorem AtPark.parked {w W : World} {a3 k : Int} (h : AtPark w W a3 k 0 none) : AtPark w ((((W.setCell ⟨w.heap.size + 1, 4, none⟩ (.chan (some W.heap.size))).setCell ⟨w.heap.size, 178, none⟩ (.int .i64 (k + 1))).setCell ⟨w.heap.size + 1, 3, none⟩ (.int .i32 2)).alloc (.chan 1 #[] false 0 0 false)) a3 (k + 1) 2 (some W.heap.size) := by
  have hs := h.sz
  refine ⟨(((h.bel.setCell (by simp) _).setCell (by simp) _).setCell (by simp) _).alloc (by simp; omega) _, by simp; omega, ?_, ?_, ?_, ?_, ?_, ?_, ?_, ?_, ?_, ?_⟩
  · rw [World.cell?_alloc_past _ _ _ (by simp; omega), World.cell?_setCell_other _ _ _ _ (by simp), World.cell?_setCell_other _ _ _ _ (by simp), World.cell?_setCell_other _ _ _ _ (by simp)]; exact h.t0
  · rw [World.cell?_alloc_past _ _ _ (by simp; omega), World.cell?_setCell_other _ _ _ _ (by simp), World.cell?_setCell_other _ _ _ _ (by simp), World.cell?_setCell_other _ _ _ _ (by simp)]; exact h.t1
  · rw [World.cell?_alloc_past _ _ _ (by simp; omega), World.cell?_setCell_other _ _ _ _ (by simp), World.cell?_setCell_other _ _ _ _ (by simp), World.cell?_setCell_other _ _ _ _ (by simp)]; exact h.t2
  · rw [World.cell?_alloc_past _ _ _ (by simp; omega)]
    exact World.cell?_setCell_same _ _ _ ((World.cell?_setCell_other _ _ _ _ (by simp)).trans ((World.cell?_setCell_other _ _ _ _ (by simp)).trans h.t3))
  · rw [World.cell?_alloc_past _ _ _ (by simp; omega), World.cell?_setCell_other _ _ _ _ (by simp), World.cell?_setCell_other _ _ _ _ (by simp)]
    exact World.cell?_setCell_same _ _ _ h.t4
  · rw [World.cell?_alloc_past _ _ _ (by simp; omega), World.cell?_setCell_other _ _ _ _ (by simp), World.cell?_setCell_other _ _ _ _ (by simp), World.cell?_setCell_other _ _ _ _ (by simp)]; exact h.t5
  · rw [World.cell?_alloc_past _ _ _ (by simp; omega), World.cell?_setCell_other _ _ _ _ (by simp)]
    exact World.cell?_setCell_same _ _ _ ((World.cell?_setCell_other _ _ _ _ (by simp)).trans h.s)
  · intro o; rw [World.frozen?_alloc_past _ _ _ (by simp; omega), World.frozen?_setCell, World.frozen?_setCell, World.frozen?_setCell]; exact h.ft o
  · intro o; rw [World.frozen?_alloc_past _ _ _ (by simp; omega), World.frozen?_setCell, World.frozen?_setCell, World.frozen?_setCell]; exact h.fs o
  · intro c hc
    cases hc
    refine ⟨?_, by omega⟩
    have e : W.heap.size = (((W.setCell ⟨w.heap.size + 1, 4, none⟩ (.chan (some W.heap.size))).setCell ⟨w.heap.size, 178, none⟩ (.int .i64 (k + 1))).setCell ⟨w.heap.size + 1, 3, none⟩ (.int .i32 2)).heap.size := by simp
    exact (congrArg (fun n => (World.alloc _ _).heap[n]?) e).trans (MapKept.heap_alloc _ _).1
set_option maxRecDepth 100000 in
set_option maxHeartbeats 400000 in
theorem law4 (a0 a1 : Bool) (a2 a3 : Int) (h0 : 0 ≤ a2) (h1 : a2 ≤ 255) (w : World) :
    Calls Yba.prog 4 #[.bool a0, .bool a1, .int .u8 a2, .int .u64 a3] w fun e w' => e = .returned (.bool true) ∧ Below w.heap.size w w' := by
  obtain ⟨z, cs, hz1, hz2, z174, z175, z178, z182⟩ := zero70
  have hm := mk1
  have hq1 := chan_eq
  have hq2 := chan_ne
  have hq3 := func_ne
  have hq4 := notb
  have hq5 := chan_nil
  go_enter Yba.func4, Yba.ntmps4
  go_wp2_with (first | refine wpList_build0 rfl 70 rfl z hz1 ?_ | refine wpList_box0 rfl 70 (.tmp 15) rfl z rfl cs hz2 ?_)
  go_loopw [10] (fun i wr => ∃ k : Nat, (k : Int) ≤ a2 ∧ i = .int .i64 k ∧ Below w.heap.size w wr ∧ wr.heap.size = w.heap.size + 1 ∧ wr.cell? ⟨w.heap.size, 178, none⟩ = some (.int .i64 k) ∧ ∀ o, wr.frozen? ⟨w.heap.size, o, none⟩ = false) (fun i _ => (300 - intOf i).toNat)
  case atStart =>
    refine ⟨0, by omega, rfl, (Below.refl _ _).alloc (Nat.le_refl _) _, by simp, ?_, ?_⟩
    · simp [z178]
    · intro o; simp
  case round =>
    obtain ⟨k, hk, rfl, hb, hsz, c0, hfz⟩ := hrel
    by_cases hlt : (k : Int) < a2
    · go_wp2_with fail
      refine (add64 _ _ _ (by omega) (by omega) _ c0 (hfz _)).mono ?_
      rintro e w' ⟨rfl, rfl⟩
      go_wp2_with fail
      go_roundw
      case rel =>
        refine ⟨k + 1, by omega, by go_num, hb.setCell (Nat.le_refl _) _, by simpa using hsz, ?_, ?_⟩
        · simpa using World.cell?_setCell_same _ _ _ c0
        · intro o
          rw [World.frozen?_setCell]
          exact hfz o
      case measure => simp [intOf]; omega
    · have hke : (k : Int) = a2 := by omega
      subst hke
      clear hk hlt
      cases a1 <;> cases a0
      · go_wp2_with fail
        have A := AtPark.start w wr a3 k hb hsz c0 hfz
        clear hb hsz c0 hfz
        generalize wr.alloc (.cells #[.int .u64 a3, .nilFunc, .pointer none, .int .i32 0, .chan none, .pointer none] 82) = W at A ⊢
        refine (store32 _ _ _ _ _ A.t3 (A.ft 3)).mono ?_
        rintro e w' ⟨rfl, rfl⟩
        have A := A.state 0
        generalize W.setCell ⟨w.heap.size + 1, 3, none⟩ (.int .i32 0) = W at A ⊢
        have hsz := A.sz
        go_wp2_with fail
        refine (park_nil _ _ k h0 (by omega) W (by omega) (by omega) A.t3 A.t4 A.s A.ft A.fs).mono ?_
        rintro e w' ⟨rfl, rfl⟩
        have A := A.parked
        generalize (((W.setCell ⟨w.heap.size + 1, 4, none⟩ (.chan (some W.heap.size))).setCell ⟨w.heap.size, 178, none⟩ (.int .i64 (k + 1))).setCell ⟨w.heap.size + 1, 3, none⟩ (.int .i32 2)).alloc (.chan 1 #[] false 0 0 false) = W2 at A ⊢
        generalize W.heap.size = c at A ⊢
        have hcap := cap_chan c W2 (A.ch c rfl).1
        go_wp2_with fail
        refine (load64 _ _ _ _ A.s).mono ?_
        rintro e w' ⟨rfl, rfl⟩
        have t0 := A.t0
        have t1 := A.t1
        have t2 := A.t2
        have t4 := A.t4
        have t5 := A.t5
        go_wp2_with fail
        refine (load32 _ _ _ _ A.t3).mono ?_
        rintro e w' ⟨rfl, rfl⟩
        go_wp2_with fail
        go_ret
        exact ⟨by simp, A.bel⟩
      · go_wp2_with fail
        have A := AtPark.start w wr a3 k hb hsz c0 hfz
        clear hb hsz c0 hfz
        generalize wr.alloc (.cells #[.int .u64 a3, .nilFunc, .pointer none, .int .i32 0, .chan none, .pointer none] 82) = W at A ⊢
        refine (store32 _ _ _ _ _ A.t3 (A.ft 3)).mono ?_
        rintro e w' ⟨rfl, rfl⟩
        have A := A.state 1
        generalize W.setCell ⟨w.heap.size + 1, 3, none⟩ (.int .i32 1) = W at A ⊢
        have hsz := A.sz
        go_wp2_with fail
        refine (park_woken _ _ W A.t3 (A.ft 3)).mono ?_
        rintro e w' ⟨rfl, rfl⟩
        have A := A.state 0
        generalize W.setCell ⟨w.heap.size + 1, 3, none⟩ (.int .i32 0) = W2 at A ⊢
        go_wp2_with fail
        refine (load64 _ _ _ _ A.s).mono ?_
        rintro e w' ⟨rfl, rfl⟩
        have t0 := A.t0
        have t1 := A.t1
        have t2 := A.t2
        have t4 := A.t4
        have t5 := A.t5
        go_wp2_with fail
        refine (load32 _ _ _ _ A.t3).mono ?_
        rintro e w' ⟨rfl, rfl⟩
        go_wp2_with fail
        go_ret
        exact ⟨by simp, A.bel⟩
      · go_wp2_with fail
        have A := AtPark.startc w wr a3 k hb hsz c0 hfz
        clear hb hsz c0 hfz
        generalize (wr.alloc (.cells #[.int .u64 a3, .nilFunc, .pointer none, .int .i32 0, .chan (some (w.heap.size + 1 + 1)), .pointer none] 82)).alloc (.chan 1 #[] false 0 0 false) = W at A ⊢
        refine (store32 _ _ _ _ _ A.t3 (A.ft 3)).mono ?_
        rintro e w' ⟨rfl, rfl⟩
        have A := A.state 0
        generalize W.setCell ⟨w.heap.size + 1, 3, none⟩ (.int .i32 0) = W at A ⊢
        have hsz := A.sz
        go_wp2_with fail
        refine (park_set _ _ _ k h0 (by omega) W A.t3 A.t4 A.s A.ft A.fs).mono ?_
        rintro e w' ⟨rfl, rfl⟩
        have A := (A.count (k + 1)).state 2
        generalize (W.setCell ⟨w.heap.size, 178, none⟩ (.int .i64 (k + 1))).setCell ⟨w.heap.size + 1, 3, none⟩ (.int .i32 2) = W2 at A ⊢
        have hcap := cap_chan _ W2 (A.ch _ rfl).1
        go_wp2_with fail
        refine (load64 _ _ _ _ A.s).mono ?_
        rintro e w' ⟨rfl, rfl⟩
        have t0 := A.t0
        have t1 := A.t1
        have t2 := A.t2
        have t4 := A.t4
        have t5 := A.t5
        go_wp2_with fail
        refine (load32 _ _ _ _ A.t3).mono ?_
        rintro e w' ⟨rfl, rfl⟩
        go_wp2_with fail
        go_ret
        exact ⟨by simp, A.bel⟩
      · go_wp2_with fail
        have A := AtPark.startc w wr a3 k hb hsz c0 hfz
        clear hb hsz c0 hfz
        generalize (wr.alloc (.cells #[.int .u64 a3, .nilFunc, .pointer none, .int .i32 0, .chan (some (w.heap.size + 1 + 1)), .pointer none] 82)).alloc (.chan 1 #[] false 0 0 false) = W at A ⊢
        refine (store32 _ _ _ _ _ A.t3 (A.ft 3)).mono ?_
        rintro e w' ⟨rfl, rfl⟩
        have A := A.state 1
        generalize W.setCell ⟨w.heap.size + 1, 3, none⟩ (.int .i32 1) = W at A ⊢
        have hsz := A.sz
        go_wp2_with fail
        refine (park_woken _ _ W A.t3 (A.ft 3)).mono ?_
        rintro e w' ⟨rfl, rfl⟩
        have A := A.state 0
        generalize W.setCell ⟨w.heap.size + 1, 3, none⟩ (.int .i32 0) = W2 at A ⊢
        go_wp2_with fail
        refine (load64 _ _ _ _ A.s).mono ?_
        rintro e w' ⟨rfl, rfl⟩
        have t0 := A.t0
        have t1 := A.t1
        have t2 := A.t2
        have t4 := A.t4
        have t5 := A.t5
        go_wp2_with fail
        refine (load32 _ _ _ _ A.t3).mono ?_
        rintro e w' ⟨rfl, rfl⟩
        go_wp2_with fail
        go_ret
        exact ⟨by simp, A.bel⟩
end Go.Proofs.Ybulkcude
