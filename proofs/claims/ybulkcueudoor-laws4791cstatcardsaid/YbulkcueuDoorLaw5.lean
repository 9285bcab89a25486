import Derived.Test.YbulkcueuDoorClose
import Derived.Test.YbulkcueuDoorBase
namespace Go.Proofs.YbulkcueuDoor
open Go.RowKit Go.MuLone
theorem Ybad.info5 : (Ybad.prog.info? 5).map (fun i => (i.zero, i.size, i.bytes)) = some (some (.int .u8 0), 1, 1) := by kernel_rfl

/-- The file system, the node and the file as the laws lay them, behind one another from block 'fb' on; nothing older is touched. -/
structure Full (w W : World) (fb len cap : Nat) (ao : Option Addr) (name : ByteArray) (dir wri lock closed locked : Bool) (off : Int) (X : TypeId) (p : Addr) : Prop where
  bel : Below w.heap.size w W
  lo : w.heap.size ≤ fb
  hi : fb + 1 + 1 < W.heap.size
  w3 : 3 < w.heap.size
  g : W.cell? ⟨3, 0, none⟩ = some (.iface X (.pointer (some p)))
  h0 : W.cell? ⟨fb + 1 + 1, 0, none⟩ = some (.pointer (some ⟨fb, 0, none⟩))
  h1 : W.cell? ⟨fb + 1 + 1, 1, none⟩ = some (.pointer (some ⟨fb + 1, 0, none⟩))
  h2 : W.cell? ⟨fb + 1 + 1, 2, none⟩ = some (.string name)
  h3 : W.cell? ⟨fb + 1 + 1, 3, none⟩ = some (.bool wri)
  h4 : W.cell? ⟨fb + 1 + 1, 4, none⟩ = some (.bool lock)
  h5 : W.cell? ⟨fb + 1 + 1, 5, none⟩ = some (.int .i64 off)
  h6 : W.cell? ⟨fb + 1 + 1, 6, none⟩ = some (.bool closed)
  n0 : W.cell? ⟨fb + 1, 0, none⟩ = some (.bool dir)
  n1 : W.cell? ⟨fb + 1, 1, none⟩ = some (.slice ao len cap)
  n7 : W.cell? ⟨fb + 1, 7, none⟩ = some (.bool locked)
  m0 : W.cell? ⟨fb, 0, none⟩ = some (.int .i32 0)
  zf : ∀ o, W.frozen? ⟨fb, o, none⟩ = false
  zn : ∀ o, W.frozen? ⟨fb + 1, o, none⟩ = false
  zh : ∀ o, W.frozen? ⟨fb + 1 + 1, o, none⟩ = false

theorem Full.next {w W : World} {fb len cap : Nat} {ao : Option Addr} {name : ByteArray} {dir wri lock closed locked : Bool} {off : Int} {X : TypeId} {p : Addr} {W' : World} (h : Full w W fb len cap ao name dir wri lock closed locked off X p) (hb : Below W.heap.size W W') : Full w W' fb len cap ao name dir wri lock closed locked off X p := by
  have h1 := h.hi
  have h2 := h.w3
  have h3 := h.lo
  have hs := hb.size
  refine ⟨h.bel.trans (hb.mono (by omega)), h.lo, by omega, h.w3, (hb.cell (p := ⟨3, 0, none⟩) (by simp; omega)).trans h.g, (hb.cell (p := ⟨fb + 1 + 1, 0, none⟩) (by simp; omega)).trans h.h0, (hb.cell (p := ⟨fb + 1 + 1, 1, none⟩) (by simp; omega)).trans h.h1, (hb.cell (p := ⟨fb + 1 + 1, 2, none⟩) (by simp; omega)).trans h.h2, (hb.cell (p := ⟨fb + 1 + 1, 3, none⟩) (by simp; omega)).trans h.h3, (hb.cell (p := ⟨fb + 1 + 1, 4, none⟩) (by simp; omega)).trans h.h4, (hb.cell (p := ⟨fb + 1 + 1, 5, none⟩) (by simp; omega)).trans h.h5, (hb.cell (p := ⟨fb + 1 + 1, 6, none⟩) (by simp; omega)).trans h.h6, (hb.cell (p := ⟨fb + 1, 0, none⟩) (by simp; omega)).trans h.n0, (hb.cell (p := ⟨fb + 1, 1, none⟩) (by simp; omega)).trans h.n1, (hb.cell (p := ⟨fb + 1, 7, none⟩) (by simp; omega)).trans h.n7, (hb.cell (p := ⟨fb, 0, none⟩) (by simp; omega)).trans h.m0, fun o => (hb.frozen (p := ⟨fb, o, none⟩) (by simp; omega)).trans (h.zf o), fun o => (hb.frozen (p := ⟨fb + 1, o, none⟩) (by simp; omega)).trans (h.zn o), fun o => (hb.frozen (p := ⟨fb + 1 + 1, o, none⟩) (by simp; omega)).trans (h.zh o)⟩

theorem Full.file {w W : World} {fb len cap : Nat} {ao : Option Addr} {name : ByteArray} {dir wri lock closed locked : Bool} {off : Int} {X : TypeId} {p : Addr} (h : Full w W fb len cap ao name dir wri lock closed locked off X p) : File W fb (fb + 1) (fb + 1 + 1) len cap ao dir closed name :=
  ⟨h.h0, h.h1, h.h2, h.h6, h.n0, h.n1, h.m0, h.zf 0, by have := h.hi; omega, by have := h.hi; omega, h.hi, by omega, by omega⟩

theorem cell_new {w : World} {n : Nat} (h : w.heap.size = n) (c : Array Value) (t : TypeId) (o : Nat) : (w.alloc (.cells c t)).cell? ⟨n, o, none⟩ = c[o]? := by
  subst h; simp
theorem frozen_new {w : World} {n : Nat} (h : w.heap.size = n) (c : Array Value) (t : TypeId) (o : Nat) : (w.alloc (.cells c t)).frozen? ⟨n, o, none⟩ = false := by
  subst h; simp

/-- The three literals, laid behind 'w1'. -/
theorem Full.made (w w1 : World) (len cap : Nat) (ao : Option Addr) (name : ByteArray) (dir wri lock closed locked : Bool) (off : Int) (X : TypeId) (p : Addr) (hb : Below w.heap.size w w1) (hw3 : 3 < w.heap.size) (hg : w.cell? ⟨3, 0, none⟩ = some (.iface X (.pointer (some p)))) :
    Full w (((w1.alloc (.cells #[.int .i32 0, .int .u32 0, .pointer none, .nilFunc] 52)).alloc (.cells #[.bool dir, .slice ao len cap, .slice none 0 0, .int .i64 0, .slice none 0 0, .map none, .map none, .bool locked] 57)).alloc
      (.cells #[.pointer (some ⟨w1.heap.size, 0, none⟩), .pointer (some ⟨w1.heap.size + 1, 0, none⟩), .string name, .bool wri, .bool lock, .int .i64 off, .bool closed] 61)) w1.heap.size len cap ao name dir wri lock closed locked off X p := by
  have hs := hb.size
  refine ⟨((hb.alloc (by omega) _).alloc (by simp; omega) _).alloc (by simp; omega) _, by omega, by simp, hw3, ?_, ?_, ?_, ?_, ?_, ?_, ?_, ?_, ?_, ?_, ?_, ?_, ?_, ?_, ?_⟩
  · rw [World.cell?_alloc_past _ _ _ (by simp; omega), World.cell?_alloc_past _ _ _ (by simp; omega), World.cell?_alloc_past _ _ _ (by omega), hb.cell (p := ⟨3, 0, none⟩) hw3]; exact hg
  iterate 7 (rw [cell_new (by simp)]; rfl)
  iterate 3 (rw [World.cell?_alloc_past _ _ _ (by simp), cell_new (by simp)]; rfl)
  · rw [World.cell?_alloc_past _ _ _ (by simp; omega), World.cell?_alloc_past _ _ _ (by simp), cell_new rfl]; rfl
  · intro o
    rw [World.frozen?_alloc_past _ _ _ (by simp; omega), World.frozen?_alloc_past _ _ _ (by simp), frozen_new rfl]
  · intro o
    rw [World.frozen?_alloc_past _ _ _ (by simp), frozen_new (by simp)]
  · intro o
    rw [frozen_new (by simp)]

theorem Full.shut {w W : World} {fb len cap : Nat} {ao : Option Addr} {name : ByteArray} {dir wri lock locked : Bool} {off : Int} {X : TypeId} {p : Addr} (h : Full w W fb len cap ao name dir wri lock false locked off X p) : Full w (shut W (fb + 1) (fb + 1 + 1) lock) fb len cap ao name dir wri lock true (!lock && locked) off X p := by
  have h3 := h.lo
  have hhi := h.hi
  have hw3 := h.w3
  cases lock
  · refine ⟨h.bel.setCell (by simp; omega) _, h.lo, by simpa [YbulkcueuDoor.shut] using h.hi, h.w3, ?_, ?_, ?_, ?_, ?_, ?_, ?_, World.cell?_setCell_same _ _ _ h.h6, ?_, ?_, ?_, ?_, ?_, ?_, ?_⟩
    · exact (World.cell?_setCell_other _ _ _ _ (by simp)).trans h.g
    · exact (World.cell?_setCell_other _ _ _ _ (by simp)).trans h.h0
    · exact (World.cell?_setCell_other _ _ _ _ (by simp)).trans h.h1
    · exact (World.cell?_setCell_other _ _ _ _ (by simp)).trans h.h2
    · exact (World.cell?_setCell_other _ _ _ _ (by simp)).trans h.h3
    · exact (World.cell?_setCell_other _ _ _ _ (by simp)).trans h.h4
    · exact (World.cell?_setCell_other _ _ _ _ (by simp)).trans h.h5
    · exact (World.cell?_setCell_other _ _ _ _ (by simp)).trans h.n0
    · exact (World.cell?_setCell_other _ _ _ _ (by simp)).trans h.n1
    · exact (World.cell?_setCell_other _ _ _ _ (by simp)).trans (by simpa using h.n7)
    · exact (World.cell?_setCell_other _ _ _ _ (by simp)).trans h.m0
    · exact fun o => (World.frozen?_setCell _ _ _ _).trans (h.zf o)
    · exact fun o => (World.frozen?_setCell _ _ _ _).trans (h.zn o)
    · exact fun o => (World.frozen?_setCell _ _ _ _).trans (h.zh o)
  · refine ⟨(h.bel.setCell (by simp; omega) _).setCell (by simp; omega) _, h.lo, by simpa [YbulkcueuDoor.shut] using h.hi, h.w3, ?_, ?_, ?_, ?_, ?_, ?_, ?_, ?_, ?_, ?_, ?_, ?_, ?_, ?_, ?_⟩
    · exact (World.cell?_setCell_other _ _ _ _ (by simp)).trans ((World.cell?_setCell_other _ _ _ _ (by simp)).trans h.g)
    · exact (World.cell?_setCell_other _ _ _ _ (by simp)).trans ((World.cell?_setCell_other _ _ _ _ (by simp)).trans h.h0)
    · exact (World.cell?_setCell_other _ _ _ _ (by simp)).trans ((World.cell?_setCell_other _ _ _ _ (by simp)).trans h.h1)
    · exact (World.cell?_setCell_other _ _ _ _ (by simp)).trans ((World.cell?_setCell_other _ _ _ _ (by simp)).trans h.h2)
    · exact (World.cell?_setCell_other _ _ _ _ (by simp)).trans ((World.cell?_setCell_other _ _ _ _ (by simp)).trans h.h3)
    · exact (World.cell?_setCell_other _ _ _ _ (by simp)).trans ((World.cell?_setCell_other _ _ _ _ (by simp)).trans h.h4)
    · exact (World.cell?_setCell_other _ _ _ _ (by simp)).trans ((World.cell?_setCell_other _ _ _ _ (by simp)).trans h.h5)
    · exact (World.cell?_setCell_other _ _ _ _ (by simp)).trans (World.cell?_setCell_same _ _ _ h.h6)
    · exact (World.cell?_setCell_other _ _ _ _ (by simp)).trans ((World.cell?_setCell_other _ _ _ _ (by simp)).trans h.n0)
    · exact (World.cell?_setCell_other _ _ _ _ (by simp)).trans ((World.cell?_setCell_other _ _ _ _ (by simp)).trans h.n1)
    · exact World.cell?_setCell_same _ _ _ ((World.cell?_setCell_other _ _ _ _ (by simp)).trans h.n7)
    · exact (World.cell?_setCell_other _ _ _ _ (by simp)).trans ((World.cell?_setCell_other _ _ _ _ (by simp)).trans h.m0)
    · exact fun o => (World.frozen?_setCell _ _ _ _).trans ((World.frozen?_setCell _ _ _ _).trans (h.zf o))
    · exact fun o => (World.frozen?_setCell _ _ _ _).trans ((World.frozen?_setCell _ _ _ _).trans (h.zn o))
    · exact fun o => (World.frozen?_setCell _ _ _ _).trans ((World.frozen?_setCell _ _ _ _).trans (h.zh o))

set_option maxRecDepth 100000 in
set_option maxHeartbeats 1000000 in
theorem law5 (name : ByteArray) (dir lock : Bool) (k : Nat) (hk : k ≤ 255) (hs : name.size ≤ 9223372036854775807) (X : TypeId) (p : Addr) (w : World) (hw3 : 3 < w.heap.size)
    (heq : ∀ w, (binOp .eql 33 (.iface X (.pointer (some p))) (.iface X (.pointer (some p)))).run Ybad.prog w = .ok (.bool true) w)
    (hg : w.cell? ⟨3, 0, none⟩ = some (.iface X (.pointer (some p)))) :
    Calls Ybad.prog 5 #[.string name, .bool dir, .bool lock, .int .u8 k] w fun e w' => e = .returned (.bool true) ∧ Below w.heap.size w w' := by
  obtain ⟨i0, hi, hz0, hz1, hz2⟩ := info_parts Ybad.info5
  have ha1 := assert69
  have hnot : ∀ (x : Bool) (w : World), (Op.unary .not (.bool x)).run Ybad.prog w = .ok (.bool (!x)) w := fun _ _ => rfl
  have hbs : ∀ w, Calls Ybad.prog 17 #[.string name] w fun e w' => e = .returned (.string ⟨(Lib.Pa.base name.data.toList).toArray⟩) ∧ w' = w := fun w => (base_any name w hs).mono fun e w' ⟨h1, h2⟩ => ⟨h1, h2.symm⟩
  have hst := fun fb nb hb len cap ao dir w F => stat_open fb nb hb len cap ao dir name hs w F
  generalize (⟨(Lib.Pa.base name.data.toList).toArray⟩ : ByteArray) = B at hbs hst
  go_enter Ybad.func5, Ybad.ntmps5
  go_wp2_with (at_make; refine wpList_make_full _ rfl (.tmp 22) (.tmp 22) 53 rfl w.heap.size 5 i0 (.int .u8 0) 1 Ybad.underlying53 hi hz0 hz1 .i64 .i64 k k k rfl rfl rfl rfl ?b2 ?b3 ?b4 ?next)
  case b2 => rw [hz2]; omega
  case b3 => unfold maxLen; omega
  case b4 => exact Nat.le_refl _
  case next =>
    intro w1 ho hgr
    have hb1 : Below w.heap.size w w1 := (Below.refl _ _).grown hgr (Nat.le_refl _) (fun k h => by cases h)
    clear ho hgr
    have Fu := Full.made w w1 k k (some ⟨w.heap.size, 0, none⟩) name dir false lock false true 0 X p hb1 hw3 hg
    generalize hfb : w1.heap.size = fb at Fu
    go_wp2_with fail
    generalize ((w1.alloc (.cells #[.int .i32 0, .int .u32 0, .pointer none, .nilFunc] 52)).alloc (.cells #[.bool dir, .slice (some ⟨w.heap.size, 0, none⟩) k k, .slice none 0 0, .int .i64 0, .slice none 0 0, .map none, .map none, .bool true] 57)).alloc
      (.cells #[.pointer (some ⟨fb, 0, none⟩), .pointer (some ⟨fb + 1, 0, none⟩), .string name, .bool false, .bool lock, .int .i64 0, .bool false] 61) = W at Fu ⊢
    clear hfb hb1 hg
    -- the first Stat
    refine (hst fb (fb + 1) (fb + 1 + 1) k k _ dir W Fu.file).mono ?_
    rintro e W2 ⟨rfl, hb2⟩
    have Fu := Fu.next hb2
    clear hb2
    go_wp2_with fail
    go_quiet ((go_at_call 17; exact Calls.quiet_of_same (hbs _)))
    have Fu := Fu.next (W' := (W2.alloc (.cells #[.string B, .int .i64 k, .bool dir] 69)).drewN nq) ((Below.refl _ _).alloc (Nat.le_refl _) _ |>.trans ⟨rfl, rfl, rfl, Nat.le_refl _, fun _ _ => rfl⟩)
    generalize (W2.alloc (.cells #[.string B, .int .i64 k, .bool dir] 69)).drewN nq = W3 at Fu ⊢
    clear hst hbs ha1
    go_wp2_with fail
    refine (close_any fb (fb + 1) (fb + 1 + 1) k k _ dir lock true name W3 Fu.file Fu.h4 Fu.n7 (Fu.zh 6) (Fu.zn 7)).mono ?_
    rintro e W4 ⟨rfl, hb4⟩
    have Fu := Fu.shut
    have Fu := Fu.next (W' := W4) (by
      have e : (shut W3 (fb + 1) (fb + 1 + 1) lock).heap.size = W3.heap.size := by cases lock <;> simp [shut]
      rw [e]; exact hb4)
    clear hb4
    have n7 := Fu.n7
    have hl7 : (!lock && true) = !lock := by simp
    rw [hl7] at Fu n7
    clear hl7
    go_wp2_with fail
    clear n7
    have hlo := Fu.lo
    refine (stat_closed fb (fb + 1) (fb + 1 + 1) k k _ dir name X p W4 Fu.file (by omega) Fu.g).mono ?_
    rintro e W5 ⟨eb, _, rfl, x0, x1, x2, _, hb5⟩
    have Fu := Fu.next hb5
    clear hb5 hlo
    go_wp2_with fail
    refine (closederr_any eb name X p W5 heq x0 x1 x2 Fu.g).mono ?_
    rintro e W6 ⟨rfl, m, rfl⟩
    have Fu := Fu.next (W' := W5.drewN m) ⟨rfl, rfl, rfl, Nat.le_refl _, fun _ _ => rfl⟩
    generalize W5.drewN m = W6 at Fu ⊢
    clear x0 x1 x2
    go_wp2_with fail
    have hlo := Fu.lo
    refine (stat_closed fb (fb + 1) (fb + 1 + 1) k k _ dir name X p W6 Fu.file (by omega) Fu.g).mono ?_
    rintro e W7 ⟨eb, _, rfl, x0, x1, x2, _, hb5⟩
    have Fu := Fu.next hb5
    clear hb5 hlo
    go_wp2_with fail
    refine (closederr_any eb name X p W7 heq x0 x1 x2 Fu.g).mono ?_
    rintro e W8 ⟨rfl, m, rfl⟩
    have Fu := Fu.next (W' := W7.drewN m) ⟨rfl, rfl, rfl, Nat.le_refl _, fun _ _ => rfl⟩
    generalize W7.drewN m = W8 at Fu ⊢
    clear x0 x1 x2
    go_wp2_with fail
    refine (trylock_free fb 0 W8 Fu.m0 (Fu.zf 0)).mono ?_
    rintro e W9 ⟨rfl, rfl⟩
    have k0 := World.cell?_setCell_same W8 ⟨fb, 0, none⟩ (.int .i32 1) Fu.m0
    have kz := (World.frozen?_setCell W8 ⟨fb, 0, none⟩ ⟨fb, 0, none⟩ (.int .i32 1)).trans (Fu.zf 0)
    have hrel := relock (w := W8) (w2 := W8.setCell ⟨fb, 0, none⟩ (.int .i32 1)) (a := ⟨fb, 0, none⟩) (u := .int .i32 1) Fu.m0 (Below.refl _ _)
    have Fu := Fu.next hrel
    clear hrel
    go_wp2_with fail
    refine (unlock_held Ybad.muLib ⟨fb, 0, none⟩ _ k0 kz).mono ?_
    rintro e W10 ⟨rfl, rfl⟩
    generalize (W8.setCell ⟨fb, 0, none⟩ (.int .i32 1)).setCell ⟨fb, 0, none⟩ (.int .i32 0) = W11 at Fu ⊢
    clear k0 kz
    have n7 := Fu.n7
    have n1 := Fu.n1
    go_wp2_with fail
    go_ret
    exact ⟨by simp, Fu.bel⟩
end Go.Proofs.YbulkcueuDoor
