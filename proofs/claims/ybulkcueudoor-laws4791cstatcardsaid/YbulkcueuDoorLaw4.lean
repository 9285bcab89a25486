import Derived.Test.YbulkcueuDoorLaw5
import Derived.Laws.CopyOwn
namespace Go.Proofs.YbulkcueuDoor
open Go.RowKit Go.MuLone

set_option maxRecDepth 100000 in
set_option maxHeartbeats 1000000 in
theorem law4_big (name : ByteArray) (da : Option Addr) (len cap : Nat) (dir closed wri lock locked : Bool) (off : Int) (hl : len ≤ 9223372036854775807) (hs : name.size ≤ 9223372036854775807) (hbig : 65536 < len ∨ 65536 < name.size) (w : World) :
    Calls Ybad.prog 4 #[.string name, .slice da len cap, .bool dir, .bool closed, .bool wri, .bool lock, .bool locked, .int .i64 off] w fun e w' => e = .returned (.bool true) ∧ Below w.heap.size w w' := by
  by_cases h1 : (65536 : Int) < (len : Int)
  · go_enter Ybad.func4, Ybad.ntmps4
    go_wp2_with fail
    go_ret
    exact ⟨rfl, Below.refl _ _⟩
  · have h2 : (65536 : Int) < (name.size : Int) := by omega
    go_enter Ybad.func4, Ybad.ntmps4
    go_wp2_with fail
    go_ret
    exact ⟨rfl, Below.refl _ _⟩

set_option maxRecDepth 100000 in
set_option maxHeartbeats 1000000 in
theorem law4 (name : ByteArray) (da : Option Addr) (len cap : Nat) (zs : List Int) (dir closed wri lock locked : Bool) (off : Int) (hl : len ≤ 65536) (hs : name.size ≤ 65536) (hz : zs.length = len)
    (X : TypeId) (p : Addr) (w : World) (hw3 : 3 < w.heap.size)
    (hda : 0 < len → ∃ b o, da = some ⟨b, o, none⟩ ∧ b < w.heap.size ∧ ∀ j, j < len → w.cell? ⟨b, o + j, none⟩ = some (.int .u8 (zs.getD j 0)))
    (heq : ∀ w, (binOp .eql 33 (.iface X (.pointer (some p))) (.iface X (.pointer (some p)))).run Ybad.prog w = .ok (.bool true) w)
    (hg : w.cell? ⟨3, 0, none⟩ = some (.iface X (.pointer (some p)))) :
    Calls Ybad.prog 4 #[.string name, .slice da len cap, .bool dir, .bool closed, .bool wri, .bool lock, .bool locked, .int .i64 off] w fun e w' => e = .returned (.bool true) ∧ Below w.heap.size w w' := by
  obtain ⟨i0, hi, hz0, hz1, hz2⟩ := info_parts Ybad.info5
  have hsz : (Ybad.prog.info? 5).map (·.size) = some 1 := by rw [hi]; simp [hz1]
  have h1 : ¬ (65536 : Int) < (len : Int) := by omega
  have h2 : ¬ (65536 : Int) < (name.size : Int) := by omega
  have ha1 := assert69
  have hnot : ∀ (x : Bool) (w : World), (Op.unary .not (.bool x)).run Ybad.prog w = .ok (.bool (!x)) w := fun _ _ => rfl
  have hbs : ∀ w, Calls Ybad.prog 17 #[.string name] w fun e w' => e = .returned (.string ⟨(Lib.Pa.base name.data.toList).toArray⟩) ∧ w' = w := fun w => (base_any name w (by omega)).mono fun e w' ⟨h1, h2⟩ => ⟨h1, h2.symm⟩
  have hst := fun fb nb hb len cap ao dir w F => stat_open fb nb hb len cap ao dir name (by omega) w F
  generalize (⟨(Lib.Pa.base name.data.toList).toArray⟩ : ByteArray) = B at hbs hst
  go_enter Ybad.func4, Ybad.ntmps4
  go_wp2_with (at_make; refine wpList_make_full _ rfl (.tmp 35) (.tmp 35) 53 rfl w.heap.size 5 i0 (.int .u8 0) 1 Ybad.underlying53 hi hz0 hz1 .i64 .i64 len len len rfl rfl rfl rfl ?b2 ?b3 ?b4 ?next)
  case b2 => omega
  case b3 => unfold maxLen; omega
  case next =>
    intro w1 ho hgr
    have hb1 : Below w.heap.size w w1 := (Below.refl _ _).grown hgr (Nat.le_refl _) (fun k h => by cases h)
    obtain ⟨cur, hcur, hcs⟩ : ∃ cur : List Value, w1.heap[w.heap.size]? = some (.cells cur.toArray 5 (0, 0)) ∧ cur.length = len := by
      rcases ho.2 with ⟨h, _⟩ | ⟨g, c, cu, h, _, hh, _, _, hc, _⟩
      · cases h
      · simp only [Value.slice.injEq, Option.some.injEq, Addr.mk.injEq] at h
        obtain ⟨⟨rfl, _, _⟩, _, rfl⟩ := h
        exact ⟨cu.toList, by simpa using hh, by simpa using hc⟩
    clear ho hgr
    go_wp2_with (refine wpList_copy_splice rfl (.tmp 37) (.tmp 38) 53 53 rfl 5 Ybad.underlying53 hsz (some ⟨w.heap.size, 0, none⟩) da len len len cap rfl rfl w.heap.size 0 cur 5 hcur (zs.map (Value.int .u8)) ?hn ?hpos ?hfit ?hone w.heap.size w hb1 (Nat.le_refl _) ?next2)
    case hn => simp [hz]
    case hpos =>
      intro h0
      obtain ⟨b, o, e, hb, hc⟩ := hda (by simpa [hz] using h0)
      refine ⟨_, e, fun j v hj => ?_⟩
      have hjl : j < len := by
        have := (List.getElem?_eq_some_iff.1 hj).1
        omega
      have : v = zs.getD j 0 := by simp [List.getD, hj]
      rw [this]
      have ea : (⟨b, o, none⟩ : Addr).add j = ⟨b, o + j, none⟩ := by
        unfold Addr.add
        split <;> simp_all
      rw [ea, hb1.cell (p := ⟨b, o + j, none⟩) hb]
      exact hc j hjl
    case hfit => simp [hz, hcs]
    case hone => intro v hv; simp at hv; obtain ⟨_, _, rfl⟩ := hv; rfl
    case next2 =>
      intro w2 hw2 hb2
      have hrow : ∀ j, j < len → w2.cell? ⟨w.heap.size, j, none⟩ = some (.int .u8 (zs.getD j 0)) := by
        intro j hj
        have e := hw2.out
        have e3 : splice cur 0 (zs.map (Value.int .u8)) = zs.map (Value.int .u8) := by simp [splice, hz, hcs]
        rw [e3] at e
        simp [World.cell?, e, List.getD, List.getElem?_eq_getElem (show j < zs.length by omega)]
      have hN : w.heap.size < w2.heap.size := by
        refine Nat.lt_of_not_le fun h => ?_
        have e := hw2.out
        rw [Array.getElem?_eq_none h] at e
        cases e
      clear hw2 hcur hcs hb1
      have Fu := Full.made w w2 len len (some ⟨w.heap.size, 0, none⟩) name dir wri lock closed locked off X p hb2 hw3 hg
      have hrow : Hid (∀ j, j < len → (((w2.alloc (.cells #[.int .i32 0, .int .u32 0, .pointer none, .nilFunc] 52)).alloc (.cells #[.bool dir, .slice (some ⟨w.heap.size, 0, none⟩) len len, .slice none 0 0, .int .i64 0, .slice none 0 0, .map none, .map none, .bool locked] 57)).alloc
        (.cells #[.pointer (some ⟨w2.heap.size, 0, none⟩), .pointer (some ⟨w2.heap.size + 1, 0, none⟩), .string name, .bool wri, .bool lock, .int .i64 off, .bool closed] 61)).cell? ⟨w.heap.size, j, none⟩ = some (.int .u8 (zs.getD j 0))) := by
        intro j hj
        rw [World.cell?_alloc_past _ _ _ (by simp; omega), World.cell?_alloc_past _ _ _ (by simp; omega), World.cell?_alloc_past _ _ _ hN]
        exact hrow j hj
      generalize hfb : w2.heap.size = fb at Fu hrow
      go_wp2_with fail
      generalize ((w2.alloc (.cells #[.int .i32 0, .int .u32 0, .pointer none, .nilFunc] 52)).alloc (.cells #[.bool dir, .slice (some ⟨w.heap.size, 0, none⟩) len len, .slice none 0 0, .int .i64 0, .slice none 0 0, .map none, .map none, .bool locked] 57)).alloc
        (.cells #[.pointer (some ⟨fb, 0, none⟩), .pointer (some ⟨fb + 1, 0, none⟩), .string name, .bool wri, .bool lock, .int .i64 off, .bool closed] 61) = W at Fu hrow ⊢
      rw [hfb] at hN
      clear hfb hb2 hg
      cases closed
      · skip
        have hlo := Fu.lo
        have hhi := Fu.hi
        refine (hst fb (fb + 1) (fb + 1 + 1) len len _ dir W Fu.file).mono ?_
        rintro e WS ⟨rfl, hb5⟩
        have hrow : Hid (∀ j, j < len → WS.cell? ⟨w.heap.size, j, none⟩ = some (.int .u8 (zs.getD j 0))) := fun j hj => (hb5.cell (p := ⟨w.heap.size, j, none⟩) (by simp; omega)).trans (hrow.out j hj)
        have Fu := Fu.next hb5
        clear hb5 hlo hhi hst
        go_wp2_with fail
        refine (trylock_free fb 0 WS Fu.m0 (Fu.zf 0)).mono ?_
        rintro e W9 ⟨rfl, rfl⟩
        have k0 := World.cell?_setCell_same WS ⟨fb, 0, none⟩ (.int .i32 1) Fu.m0
        have kz := (World.frozen?_setCell WS ⟨fb, 0, none⟩ ⟨fb, 0, none⟩ (.int .i32 1)).trans (Fu.zf 0)
        have hrel := relock (w := WS) (w2 := WS.setCell ⟨fb, 0, none⟩ (.int .i32 1)) (a := ⟨fb, 0, none⟩) (u := .int .i32 1) Fu.m0 (Below.refl _ _)
        have hlo := Fu.lo
        have hhi := Fu.hi
        have hrow : Hid (∀ j, j < len → ((WS.setCell ⟨fb, 0, none⟩ (.int .i32 1)).setCell ⟨fb, 0, none⟩ (.int .i32 0)).cell? ⟨w.heap.size, j, none⟩ = some (.int .u8 (zs.getD j 0))) := fun j hj => (hrel.cell (p := ⟨w.heap.size, j, none⟩) (by simp; omega)).trans (hrow.out j hj)
        have Fu := Fu.next hrel
        clear hrel
        go_wp2_with fail
        refine (unlock_held Ybad.muLib ⟨fb, 0, none⟩ _ k0 kz).mono ?_
        rintro e W10 ⟨rfl, rfl⟩
        generalize (WS.setCell ⟨fb, 0, none⟩ (.int .i32 1)).setCell ⟨fb, 0, none⟩ (.int .i32 0) = W5 at Fu hrow ⊢
        clear k0 kz
        have h2' := Fu.h2
        have h3' := Fu.h3
        have h4' := Fu.h4
        have h5' := Fu.h5
        have h6' := Fu.h6
        have n0' := Fu.n0
        have n1' := Fu.n1
        have n7' := Fu.n7
        go_wp2_with fail
        clear h2' h3' h4' h5' h6' n0' n1' n7'
        have hh5 := Fu.hi
        go_loopw [23] (fun i wr => ∃ k : Nat, k ≤ len ∧ i = .int .i64 k ∧ Below W5.heap.size W5 wr) (fun i _ => len - (intOf i).toNat)
        case atStart => exact ⟨0, Nat.zero_le _, rfl, Below.refl _ _⟩
        case round =>
          obtain ⟨k, hk, rfl, hbr⟩ := hrel
          have Fr := Fu.next hbr
          by_cases hlt : k < len
          · obtain ⟨b, o, rfl, hb, hc⟩ := hda (by omega)
            have q1 := Fr.n1
            have q2 : wr.cell? ⟨w.heap.size, k, none⟩ = some (.int .u8 (zs.getD k 0)) := (hbr.cell (p := ⟨w.heap.size, k, none⟩) (by simp; omega)).trans (hrow.out k hlt)
            have q3 : wr.cell? ⟨b, o + k, none⟩ = some (.int .u8 (zs.getD k 0)) := (Fr.bel.cell (p := ⟨b, o + k, none⟩) hb).trans (hc k hlt)
            have hlt' : (k : Int) < (len : Int) := by omega
            have HC : Hid (∀ j, j < len → w.cell? ⟨b, o + j, none⟩ = some (.int .u8 (zs.getD j 0))) := hc
            clear hc hda
            generalize zs.getD k 0 = z at q2 q3
            go_wp2_with fail
            go_quiet (fail)
            go_wp2_with fail
            go_roundw
            case rel => exact ⟨k + 1, by omega, by go_num, hbr.trans ⟨rfl, rfl, rfl, Nat.le_refl _, fun _ _ => rfl⟩⟩
            case measure => simp [intOf]; omega
          · go_wp2_with fail
            go_quiet ((go_at_call 17; exact Calls.quiet_of_same (hbs _)))
            have hfin : Below w.heap.size w ((wr.alloc (.cells #[.string B, .int .i64 len, .bool dir] 69)).drewN nq) := (Fr.bel.alloc (by have := Fr.bel.size; omega) _).trans ⟨rfl, rfl, rfl, Nat.le_refl _, fun _ _ => rfl⟩
            go_wp2_with fail
            go_ret
            exact ⟨rfl, hfin⟩
      · skip
        have hlo := Fu.lo
        have hhi := Fu.hi
        refine (stat_closed fb (fb + 1) (fb + 1 + 1) len len _ dir name X p W Fu.file (by omega) Fu.g).mono ?_
        rintro e WS ⟨eb, heb, rfl, x0, x1, x2, x3, hb5⟩
        have hrow : Hid (∀ j, j < len → WS.cell? ⟨w.heap.size, j, none⟩ = some (.int .u8 (zs.getD j 0))) := fun j hj => (hb5.cell (p := ⟨w.heap.size, j, none⟩) (by simp; omega)).trans (hrow.out j hj)
        have Fu := Fu.next hb5
        clear hb5 hlo hhi hst hbs
        go_wp2_with fail
        refine (trylock_free fb 0 WS Fu.m0 (Fu.zf 0)).mono ?_
        rintro e W9 ⟨rfl, rfl⟩
        have k0 := World.cell?_setCell_same WS ⟨fb, 0, none⟩ (.int .i32 1) Fu.m0
        have kz := (World.frozen?_setCell WS ⟨fb, 0, none⟩ ⟨fb, 0, none⟩ (.int .i32 1)).trans (Fu.zf 0)
        have hrel := relock (w := WS) (w2 := WS.setCell ⟨fb, 0, none⟩ (.int .i32 1)) (a := ⟨fb, 0, none⟩) (u := .int .i32 1) Fu.m0 (Below.refl _ _)
        have hlo := Fu.lo
        have hhi := Fu.hi
        have hrow : Hid (∀ j, j < len → ((WS.setCell ⟨fb, 0, none⟩ (.int .i32 1)).setCell ⟨fb, 0, none⟩ (.int .i32 0)).cell? ⟨w.heap.size, j, none⟩ = some (.int .u8 (zs.getD j 0))) := fun j hj => (hrel.cell (p := ⟨w.heap.size, j, none⟩) (by simp; omega)).trans (hrow.out j hj)
        have y0 := (hrel.cell (p := ⟨eb, 0, none⟩) x3).trans x0
        have y1 := (hrel.cell (p := ⟨eb, 1, none⟩) x3).trans x1
        have y2 := (hrel.cell (p := ⟨eb, 2, none⟩) x3).trans x2
        clear x0 x1 x2
        have hx3 := Nat.lt_of_lt_of_le x3 hrel.size
        have Fu := Fu.next hrel
        clear hrel
        go_wp2_with fail
        refine (unlock_held Ybad.muLib ⟨fb, 0, none⟩ _ k0 kz).mono ?_
        rintro e W10 ⟨rfl, rfl⟩
        generalize (WS.setCell ⟨fb, 0, none⟩ (.int .i32 1)).setCell ⟨fb, 0, none⟩ (.int .i32 0) = W5 at Fu hrow y0 y1 y2 hx3 ⊢
        clear k0 kz
        have h2' := Fu.h2
        have h3' := Fu.h3
        have h4' := Fu.h4
        have h5' := Fu.h5
        have h6' := Fu.h6
        have n0' := Fu.n0
        have n1' := Fu.n1
        have n7' := Fu.n7
        go_wp2_with fail
        clear h2' h3' h4' h5' h6' n0' n1' n7'
        have hh5 := Fu.hi
        go_loopw [23] (fun i wr => ∃ k : Nat, k ≤ len ∧ i = .int .i64 k ∧ Below W5.heap.size W5 wr) (fun i _ => len - (intOf i).toNat)
        case atStart => exact ⟨0, Nat.zero_le _, rfl, Below.refl _ _⟩
        case round =>
          obtain ⟨k, hk, rfl, hbr⟩ := hrel
          have Fr := Fu.next hbr
          by_cases hlt : k < len
          · obtain ⟨b, o, rfl, hb, hc⟩ := hda (by omega)
            have q1 := Fr.n1
            have q2 : wr.cell? ⟨w.heap.size, k, none⟩ = some (.int .u8 (zs.getD k 0)) := (hbr.cell (p := ⟨w.heap.size, k, none⟩) (by simp; omega)).trans (hrow.out k hlt)
            have q3 : wr.cell? ⟨b, o + k, none⟩ = some (.int .u8 (zs.getD k 0)) := (Fr.bel.cell (p := ⟨b, o + k, none⟩) hb).trans (hc k hlt)
            have hlt' : (k : Int) < (len : Int) := by omega
            have HC : Hid (∀ j, j < len → w.cell? ⟨b, o + j, none⟩ = some (.int .u8 (zs.getD j 0))) := hc
            clear hc hda
            generalize zs.getD k 0 = z at q2 q3
            go_wp2_with fail
            go_quiet (fail)
            go_wp2_with fail
            go_roundw
            case rel => exact ⟨k + 1, by omega, by go_num, hbr.trans ⟨rfl, rfl, rfl, Nat.le_refl _, fun _ _ => rfl⟩⟩
            case measure => simp [intOf]; omega
          · go_wp2_with fail
            refine (closederr_any eb name X p wr heq ((hbr.cell (p := ⟨eb, 0, none⟩) hx3).trans y0) ((hbr.cell (p := ⟨eb, 1, none⟩) hx3).trans y1) ((hbr.cell (p := ⟨eb, 2, none⟩) hx3).trans y2) Fr.g).mono ?_
            rintro e W8 ⟨rfl, m, rfl⟩
            have hfin : Below w.heap.size w (wr.drewN m) := Fr.bel.trans ⟨rfl, rfl, rfl, Nat.le_refl _, fun _ _ => rfl⟩
            go_wp2_with fail
            go_ret
            exact ⟨rfl, hfin⟩
end Go.Proofs.YbulkcueuDoor
