import Derived.Test.YbulkcuegLaw19
namespace Go.Proofs.Ybulkcueg
open Go.RowKit Go.Maps

set_option maxRecDepth 100000 in
set_option maxHeartbeats 400000 in
theorem law_big (sa : Option Addr) (n scap : Nat) (ra : Option Addr) (nc rcap : Nat) (hb : Bool) (bp ba : Int) (bu bo : Bool) (be : Int) (bt : Int) (mn hf : Bool) (fp fa : Int) (fu fo : Bool) (fe : Int) (er ee : Int)
    (w : World) (hm : n ≤ maxLen) (hm' : nc ≤ maxLen) (hbig : 400 < n ∨ 400 < nc) :
    Calls Yba.prog 3 #[.slice sa n scap, .slice ra nc rcap, .bool hb, .agg #[.int .u8 bp, .int .u8 ba, .bool bu, .bool bo, .int .i64 be], .int .u16 bt, .bool mn, .bool hf, .agg #[.int .u8 fp, .int .u8 fa, .bool fu, .bool fo, .int .i64 fe], .int .u8 er, .int .i64 ee] w fun e w' =>
      e = .returned (.bool true) ∧ Below w.heap.size w w' := by
  unfold maxLen at hm hm'
  by_cases h1 : 400 < n
  · have h1' : (400 : Int) < (n : Int) := by omega
    go_enter Yba.func3, Yba.ntmps3
    go_wp2_with fail
    go_ret
    exact ⟨rfl, bal (bal (Below.refl _ _))⟩
  · have h1' : ¬ (400 : Int) < (n : Int) := by omega
    have h2' : (400 : Int) < (nc : Int) := by omega
    go_enter Yba.func3, Yba.ntmps3
    go_wp2_with fail
    go_ret
    exact ⟨rfl, bal (bal (Below.refl _ _))⟩

set_option maxRecDepth 100000 in
set_option maxHeartbeats 2000000 in
theorem law (sa : Option Addr) (n scap : Nat) (ra : Option Addr) (nc rcap : Nat) (hb : Bool) (bp ba : Int) (bu bo : Bool) (be : Int) (bt : Int) (mn hf : Bool) (fp fa : Int) (fu fo : Bool) (fe : Int) (er ee : Int)
    (op oa ol ot : Nat → Int) (ok : Nat → Bool) (cp ca : Nat → Int) (cu co : Nat → Bool) (ce : Nat → Int) (w : World)
    (hn : n ≤ 400) (hnc : nc ≤ 400) (O : ObsIn w sa n op oa ol ot ok) (C : CandIn w ra nc cp ca cu co ce)
    (hbp : 0 ≤ bp ∧ bp ≤ 255) (hba : 0 ≤ ba ∧ ba ≤ 255) (hbt : 0 ≤ bt ∧ bt ≤ 65535) (hfp : 0 ≤ fp ∧ fp ≤ 255) (hfa : 0 ≤ fa ∧ fa ≤ 255) :
    Calls Yba.prog 3 #[.slice sa n scap, .slice ra nc rcap, .bool hb, .agg #[.int .u8 bp, .int .u8 ba, .bool bu, .bool bo, .int .i64 be], .int .u16 bt, .bool mn, .bool hf, .agg #[.int .u8 fp, .int .u8 fa, .bool fu, .bool fo, .int .i64 fe], .int .u8 er, .int .i64 ee] w fun e w' =>
      e = .returned (.bool true) ∧ Below w.heap.size w w' := by
  obtain ⟨i40, hi40, hz0, hz1, hz2⟩ := info_parts info40
  obtain ⟨i47, hi47, hy0, hy1, hy2⟩ := info_parts info47
  have hn' : ¬ (400 : Int) < (n : Int) := by omega
  have hnc' : ¬ (400 : Int) < (nc : Int) := by omega
  go_enter Yba.func3, Yba.ntmps3
  go_wp2_with (at_make; refine wpList_make_full _ rfl (.tmp 53) (.tmp 53) 27 rfl (w.heap.size + 2) 40 i40 _ 6 Yba.underlying27 hi40 hz0 hz1 .i64 .i64 n n n rfl rfl rfl rfl ?b2 ?b3 ?b4 ?next)
  case b2 => omega
  case b3 => unfold maxLen; omega
  case next =>
    intro w1 ho hgr
    have F0 := row_made6 (g := w.heap.size + 1 + 1) (by simpa using ho) (ob6 (fun j => mk (op j) (oa j)) ol ot ok)
    obtain ⟨hb1, hb2, hb3⟩ := boxes hgr
    have HL : Hid (L1 w w1 w.heap.size (w.heap.size + 1) (w.heap.size + 1 + 1) _ _ n 0 _) := L1.mk hb1 hb2 hb3 F0 ⟨by omega, by omega, by omega, by omega, by omega⟩
    clear ho hgr hb1 hb2 hb3 F0
    go_wp2_with fail
    generalize w.heap.size + 1 + 1 = cb at HL ⊢
    generalize w.heap.size + 1 = fb at HL ⊢
    obtain ⟨bb, hbb⟩ : ∃ bb, bb = w.heap.size := ⟨_, rfl⟩
    rw [← hbb] at HL ⊢
    clear hbb
    go_loopw [57] (fun i wr => ∃ k : Nat, k ≤ n ∧ i = .int .i64 k ∧ L1 w wr bb fb cb #[.int .u8 bp, .int .u8 ba, .bool bu, .bool bo, .int .i64 be] #[.int .u8 fp, .int .u8 fa, .bool fu, .bool fo, .int .i64 fe] n k (ob6 (fun j => mk (op j) (oa j)) ol ot ok)) (fun i _ => n - (intOf i).toNat)
    case atStart => exact ⟨0, Nat.zero_le _, rfl, HL.out⟩
    case round =>
      obtain ⟨k, hk, rfl, L⟩ := hrel
      by_cases hkn : k < n
      · have hkn' : (k : Int) < (n : Int) := by omega
        obtain ⟨sb, so, rfl, hlt, hc⟩ := O.2 (by omega)
        obtain ⟨x0, x1, x2, x3, x4⟩ := hc k hkn
        obtain ⟨r0, r1, r3⟩ := O.1 k hkn
        have y0 := (L.b.cell (p := ⟨sb, so + k * 5, none⟩) hlt).trans x0
        have y1 := (L.b.cell (p := ⟨sb, so + k * 5 + 1, none⟩) hlt).trans x1
        have y2 := (L.b.cell (p := ⟨sb, so + k * 5 + 2, none⟩) hlt).trans x2
        have y3 := (L.b.cell (p := ⟨sb, so + k * 5 + 3, none⟩) hlt).trans x3
        have y4 := (L.b.cell (p := ⟨sb, so + k * 5 + 4, none⟩) hlt).trans x4
        have hp := fun W => comb_any (op k) (oa k) W r0.1 r0.2 r1.1 r1.2
        rw [kd_mk (op k) (oa k), ka_mk (op k) (oa k)] at hp
        have HLk : Hid _ := L
        clear HL L x0 x1 x2 x3 x4 hc
        go_wp2_with fail
        refine (hp _).mono ?_
        rintro e w2 ⟨rfl, rfl⟩
        go_upto_region 8 with fail
        generalize hW : (((wr.alloc (.cells #[.int .u8 (op k), .int .u8 (oa k), .int .i64 (ol k), .int .u16 (ot k), .bool (ok k)] 29)).alloc (.cells #[.string (kd (mk (op k) (oa k))), .int .u16 (ka (mk (op k) (oa k)))] 34)).alloc (.cells #[.string (kd (mk (op k) (oa k)))] 31)).alloc (.cells #[.string (kd (mk (op k) (oa k))), .int .u16 (ka (mk (op k) (oa k)))] 34) = W2
        have c2 : W2.cell? ⟨wr.heap.size, 2, none⟩ = some (.int .i64 (ol k)) := by rw [← hW]; simp [go_sem]
        have c3 : W2.cell? ⟨wr.heap.size, 3, none⟩ = some (.int .u16 (ot k)) := by rw [← hW]; simp [go_sem]
        have c4 : W2.cell? ⟨wr.heap.size, 4, none⟩ = some (.bool (ok k)) := by rw [← hW]; simp [go_sem]
        have d0 : W2.cell? ⟨wr.heap.size + 1 + 1 + 1, 0, none⟩ = some (.string (kd (mk (op k) (oa k)))) := by rw [← hW]; simp [go_sem]
        have d1 : W2.cell? ⟨wr.heap.size + 1 + 1 + 1, 1, none⟩ = some (.int .u16 (ka (mk (op k) (oa k)))) := by rw [← hW]; simp [go_sem]
        have hB : Below wr.heap.size wr W2 := by rw [← hW]; exact bal (bal (bal (bal (Below.refl _ wr))))
        clear hW y0 y1 y2 y3 y4 hp
        have L2 := HLk.out.below hB
        clear HLk hB
        generalize wr.heap.size + 1 + 1 + 1 = B4 at *
        generalize wr.heap.size = B1 at *
        obtain ⟨⟨v0, e0⟩, z0⟩ := L2.F.there (o := k * 6) (by omega)
        obtain ⟨⟨v1, e1⟩, z1⟩ := L2.F.there (o := k * 6 + 1) (by omega)
        obtain ⟨⟨v2, e2⟩, z2⟩ := L2.F.there (o := k * 6 + 2) (by omega)
        obtain ⟨⟨v3, e3⟩, z3⟩ := L2.F.there (o := k * 6 + 3) (by omega)
        obtain ⟨⟨v4, e4⟩, z4⟩ := L2.F.there (o := k * 6 + 4) (by omega)
        obtain ⟨⟨v5, e5⟩, z5⟩ := L2.F.there (o := k * 6 + 5) (by omega)
        have HL2 : Hid _ := L2
        clear L2
        go_wp2_with fail
        go_roundw
        case rel => exact ⟨k + 1, by omega, by go_num, HL2.out.put hkn _ _ _ _ _ _ rfl rfl rfl rfl rfl rfl⟩
        case measure => simp [intOf]; omega
      · have e : n = k := by omega
        subst e
        have HL1 : Hid _ := L
        clear L HL
        go_wp2_with (at_make; refine wpList_make_full _ rfl (.tmp 85) (.tmp 85) 41 rfl wr.heap.size 47 i47 _ 6 Yba.underlying41 hi47 hy0 hy1 .i64 .i64 nc nc nc rfl rfl rfl rfl ?m2 ?m3 ?m4 ?more)
        case m2 => rw [hy2]; omega
        case m3 => unfold maxLen; omega
        case m4 => exact Nat.le_refl _
        case more =>
          intro w3 ho hgr
          have L3 : Hid (L2 w w3 bb fb cb wr.heap.size _ _ n nc 0 _ (ca6 (fun j => mk (cp j) (ca j)) (fun j => rule (cu j)) (fun j => entry (cu j) (ce j)) co)) := L2.start HL1.out hgr (row_made6 ho _)
          clear HL1 ho hgr
          go_wp2_with fail
          generalize wr.heap.size = rb at L3 ⊢
          go_loopw [89] (fun i wr => ∃ k : Nat, k ≤ nc ∧ i = .int .i64 k ∧ L2 w wr bb fb cb rb #[.int .u8 bp, .int .u8 ba, .bool bu, .bool bo, .int .i64 be] #[.int .u8 fp, .int .u8 fa, .bool fu, .bool fo, .int .i64 fe] n nc k (ob6 (fun j => mk (op j) (oa j)) ol ot ok) (ca6 (fun j => mk (cp j) (ca j)) (fun j => rule (cu j)) (fun j => entry (cu j) (ce j)) co)) (fun i _ => nc - (intOf i).toNat)
          case atStart => exact ⟨0, Nat.zero_le _, rfl, L3.out⟩
          case round =>
            obtain ⟨k, hk, rfl, L⟩ := hrel
            clear L3
            by_cases hkn : k < nc
            · have hkn' : (k : Int) < (nc : Int) := by omega
              obtain ⟨sb, so, rfl, hlt, hc⟩ := C.2 (by omega)
              obtain ⟨x0, x1, x2, x3, x4⟩ := hc k hkn
              obtain ⟨r0, r1⟩ := C.1 k hkn
              have y0 := (L.L.b.cell (p := ⟨sb, so + k * 5, none⟩) hlt).trans x0
              have y1 := (L.L.b.cell (p := ⟨sb, so + k * 5 + 1, none⟩) hlt).trans x1
              have y2 := (L.L.b.cell (p := ⟨sb, so + k * 5 + 2, none⟩) hlt).trans x2
              have y3 := (L.L.b.cell (p := ⟨sb, so + k * 5 + 3, none⟩) hlt).trans x3
              have y4 := (L.L.b.cell (p := ⟨sb, so + k * 5 + 4, none⟩) hlt).trans x4
              have hp := fun W => ranked_any (cp k) (ca k) (cu k) (co k) (ce k) W r0.1 r0.2 r1.1 r1.2
              rw [kd_mk (cp k) (ca k), ka_mk (cp k) (ca k)] at hp
              have HLk : Hid _ := L
              clear L x0 x1 x2 x3 x4 hc
              go_wp2_with fail
              refine (hp _).mono ?_
              rintro e w5 ⟨rfl, hb5⟩
              have hB : Below wr.heap.size wr w5 := (bal (Below.refl _ wr)).trans (hb5.mono (by simp))
              have L5 := HLk.out.below hB
              clear HLk hB hb5 hp y0 y1 y2 y3 y4
              obtain ⟨⟨v0, e0⟩, z0⟩ := L5.R.there (o := k * 6) (by omega)
              obtain ⟨⟨v1, e1⟩, z1⟩ := L5.R.there (o := k * 6 + 1) (by omega)
              obtain ⟨⟨v2, e2⟩, z2⟩ := L5.R.there (o := k * 6 + 2) (by omega)
              obtain ⟨⟨v3, e3⟩, z3⟩ := L5.R.there (o := k * 6 + 3) (by omega)
              obtain ⟨⟨v4, e4⟩, z4⟩ := L5.R.there (o := k * 6 + 4) (by omega)
              obtain ⟨⟨v5, e5⟩, z5⟩ := L5.R.there (o := k * 6 + 5) (by omega)
              have HL5 : Hid _ := L5
              clear L5
              go_wp2_with fail
              go_roundw
              case rel => exact ⟨k + 1, by omega, by go_num, HL5.out.put hkn _ _ _ _ _ _ rfl rfl rfl rfl rfl rfl⟩
              case measure => simp [intOf]; omega
            · have e : nc = k := by omega
              subst e
              have HL : Hid _ := L
              clear L
              clear O C hi40 hz0 hz1 hz2 hi47 hy0 hy1 hy2
              cases mn
              · go_upto_region 19 with fail
                refine P19 sa n scap ra nc rcap hb bp ba bu bo be bt false hf fp fa fu fo fe er ee op oa ol ot ok cp ca cu co ce w _ _ _ _ _ _ _ _ _ _ _ _ _ _ _ _ _ _ _ _ _ _ _ _ _ _ _ _ _ _ _ _ _ _ _ _ _ _ _ _ _ _ _ _ _ _ _ _ _ _ _ _ _ _ _ _ _ _ _ _ _ _ _ _ _ _ _ _ _ _ _ _ _ _ _ _ _ _ _ _ _ _ _ _ _ _ _ _ _ _ _ _ _ _ _ _ _ _ _ _ _ _ _ _ _ _ _ _ _ _ _ _ _ _ _ _ _ _ _ _ _ _ _ _ _ _ _ _ _ _ _ _ _ _ _ _ _ _ _ _ _ _ _ _ _ _ _ _ _ _ _ _ _ _ _ _ _ _ _ _ _ _ _ _ _ _ _ _ _ _ _ _ _ _ _ _ _ _ _ _ _ _ _ _ _ _ _ _ _ _ _ _ _ _ _ _ _ _ _ _ _ _ _ _ _ _ _ _ _ _ _ _ _ _ _ _ _ _ _ _ _ _ _ _ _ _ _ _ _ _ _ _ _ _ _ _ _ _ _ _ _ _ _ _ _ _ _ _ _ _ _ _ _ _ _ _ _ _ _ _ _ _ _ _ _ _ _ _ _ _ _ _ _ _ _ _ _ _ _ _ _ _ _ _ _ _ _ _ _ _ _ _ _ _ _ _ _ _ _ _ _ _ _ _ _ _ _ _ _ _ _ _ _ _ _ _ _ _ _ _ _ _ _ _ _ _ _ _ _ _ _ _ _ _ _ _ _ _ _ _ _ _ _ _ _ _ _ _ _ _ _ _ _ _ _ _ _ _ _ _ _ _ _ _ _ _ _ _ _ _ _ _ _ bb fb cb rb 0 _ hn hnc hbp hba hbt hfp hfa ?_ rfl HL.out
                assumption
              · go_upto_region 19 with fail
                refine P19 sa n scap ra nc rcap hb bp ba bu bo be bt true hf fp fa fu fo fe er ee op oa ol ot ok cp ca cu co ce w _ _ _ _ _ _ _ _ _ _ _ _ _ _ _ _ _ _ _ _ _ _ _ _ _ _ _ _ _ _ _ _ _ _ _ _ _ _ _ _ _ _ _ _ _ _ _ _ _ _ _ _ _ _ _ _ _ _ _ _ _ _ _ _ _ _ _ _ _ _ _ _ _ _ _ _ _ _ _ _ _ _ _ _ _ _ _ _ _ _ _ _ _ _ _ _ _ _ _ _ _ _ _ _ _ _ _ _ _ _ _ _ _ _ _ _ _ _ _ _ _ _ _ _ _ _ _ _ _ _ _ _ _ _ _ _ _ _ _ _ _ _ _ _ _ _ _ _ _ _ _ _ _ _ _ _ _ _ _ _ _ _ _ _ _ _ _ _ _ _ _ _ _ _ _ _ _ _ _ _ _ _ _ _ _ _ _ _ _ _ _ _ _ _ _ _ _ _ _ _ _ _ _ _ _ _ _ _ _ _ _ _ _ _ _ _ _ _ _ _ _ _ _ _ _ _ _ _ _ _ _ _ _ _ _ _ _ _ _ _ _ _ _ _ _ _ _ _ _ _ _ _ _ _ _ _ _ _ _ _ _ _ _ _ _ _ _ _ _ _ _ _ _ _ _ _ _ _ _ _ _ _ _ _ _ _ _ _ _ _ _ _ _ _ _ _ _ _ _ _ _ _ _ _ _ _ _ _ _ _ _ _ _ _ _ _ _ _ _ _ _ _ _ _ _ _ _ _ _ _ _ _ _ _ _ _ _ _ _ _ _ _ _ _ _ _ _ _ _ _ _ _ _ _ _ _ _ _ _ _ _ _ _ _ _ _ _ _ _ _ _ _ _ bb fb cb rb 1 _ hn hnc hbp hba hbt hfp hfa ?_ rfl HL.out
                assumption
end Go.Proofs.Ybulkcueg
