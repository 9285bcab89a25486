import Derived.Test.YbulkcuegFmtMs
import Derived.BigRegion
namespace Go.Proofs.YbulkcuegFmt
open Go.RowKit Go.Maps

/-- the candidates' cells -/
def candV (ks : List (Fin 50)) (gH : Fin 50 → Bool) (gL : Fin 50 → Int) (x : Nat) : Value := (news (ks.getD (x / 10) 0) (gH (ks.getD (x / 10) 0)) (gL (ks.getD (x / 10) 0))).getD (x % 10) (.bool false)
theorem cand_flat {cur : Array Value} {ks : List (Fin 50)} {gH : Fin 50 → Bool} {gL : Fin 50 → Int} (h : ∀ i, i < ks.length → Cand cur i (ks.getD i 0) (gH (ks.getD i 0)) (gL (ks.getD i 0))) (x : Nat) (hx : x < ks.length * 10) : cur[x]? = some (candV ks gH gL x) := by
  have hj : x % 10 < 10 := by omega
  have e := h (x / 10) (by omega) (x % 10) hj
  rw [show x / 10 * 10 + x % 10 = x by omega] at e
  rw [e]
  unfold candV
  generalize ks.getD (x / 10) 0 = q
  have h9 : x % 10 < (news q (gH q) (gL q)).length := hj
  rw [List.getD, List.getElem?_eq_getElem h9]
  rfl

/-- merge, done -/
structure Done (w w' : World) (fb n : Nat) (mp : Option Nat) (ks : List (Fin 50)) (of : Nat → Int) (gH : Fin 50 → Bool) (gL : Fin 50 → Int) : Prop where
  g : w.grownBy w' (some fb)
  own : ∀ mb, mp = some mb → w.heap.size + 2 < mb ∧ w'.ownsMap (H := Unit) Ybaf.prog 60 (plainElem Ybaf.prog 3) mb ks.length (dat ks)
  p0 : ∀ i, i < ks.length → w'.cell? ⟨w.heap.size + 1, i * 10, none⟩ = some (.string (kd (ks.getD i 0)))
  p1 : ∀ i, i < ks.length → w'.cell? ⟨w.heap.size + 1, i * 10 + 1, none⟩ = some (.int .u16 (ka (ks.getD i 0)))
  of : ∀ j, j < n → w'.cell? ⟨fb, j, none⟩ = some (.int .i64 (of j))
  nd : ks.Nodup
  cd : ∀ x, x < ks.length * 10 → w'.cell? ⟨w.heap.size + 1, x, none⟩ = some (candV ks gH gL x)
  sz : w.heap.size + 2 < w'.heap.size

theorem MS.done {w wr : World} {fb tb n : Nat} {mp : Option Nat} {ks : List (Fin 50)} {of : Nat → Int} {gH : Fin 50 → Bool} {gL : Fin 50 → Int} (h : MS w wr fb tb n mp ks of n gH gL) (hf : fb < w.heap.size) (u v : Value) :
    Done w ((wr.setCell ⟨w.heap.size, 0, none⟩ u).setCell ⟨w.heap.size, 1, none⟩ v) fb n mp ks of gH gL := by
  have hne : ∀ b, b ≠ w.heap.size → ((wr.setCell ⟨w.heap.size, 0, none⟩ u).setCell ⟨w.heap.size, 1, none⟩ v).heap[b]? = wr.heap[b]? := fun b hb => (Below.heap_setCell _ _ _ _ hb).trans (Below.heap_setCell _ _ _ _ hb)
  have hl := h.lt
  obtain ⟨cur, h1, h2, h3⟩ := h.row
  obtain ⟨cf, h4, h5, h6⟩ := h.of
  refine ⟨⟨h.g.os, h.g.tape, h.g.output, Nat.le_trans h.g.size (by simp [World.setCell]), fun k hk hn => (hne k (by omega)).trans (h.g.block k hk hn)⟩, fun mb e => ?_, fun i hi => ?_, fun i hi => ?_, fun j hj => ?_, h.nd, fun x hx => ?_, ?_⟩
  · obtain ⟨e1, es, cl, k1, k2⟩ := h.own mb e
    exact ⟨by omega, es, cl, by rw [hne _ (by omega)]; exact k1, k2⟩
  · exact cell_of (by rw [hne _ (by omega)]; exact h1) (h3 i hi 0 (by omega))
  · exact cell_of (by rw [hne _ (by omega)]; exact h1) (h3 i hi 1 (by omega))
  · exact cell_of (by rw [hne _ (by omega)]; exact h4) (h6 j hj)
  · exact cell_of (by rw [hne _ (by omega)]; exact h1) (cand_flat h3 x hx)
  · have := lt_of_heap h.t
    simp [World.setCell]
    omega

theorem infoC : (Ybaf.prog.info? 129).map (fun i => (i.zero, i.size, i.bytes)) = some (some (.agg #[.string ⟨#[]⟩, .int .u16 0, .int .i64 0, .int .u8 0, .int .u8 0, .int .i64 0, .int .i64 0, .int .i64 0, .bool false, .bool false]), 10, 72) := by kernel_rfl
theorem hiOf_none (qf : Nat → Fin 50) (hg : Nat → Bool) (q : Fin 50) (k : Nat) (h : q ∉ firsts qf k) : hiOf qf hg q k = false := by
  induction k with
  | zero => rfl
  | succ k ih =>
    unfold hiOf
    have h1 : qf k ≠ q := fun e => h (by rw [← e]; exact firsts_mem qf (k + 1) k (by omega))
    rw [if_neg h1]
    refine ih (fun hm => h ?_)
    unfold firsts
    split
    · exact hm
    · simp [hm]
theorem add0 (b off i : Nat) : (⟨b, off, none⟩ : Addr).add i = ⟨b, off + i, none⟩ := by unfold Addr.add; split <;> simp_all
theorem neq36 (a : Addr) (l c : Nat) (w : World) : (binOp .neq 36 (.slice (some a) l c) (.slice none 0 0)).run Ybaf.prog w = .ok (.bool true) w := by kernel_rfl
theorem mk130 (n : Nat) (w : World) : (Instr.makeMap 130 (some (.int .i64 n))).run Ybaf.prog w = .ok (.map (some w.heap.size)) (w.alloc (.map #[] 0)) := by
  simp [Instr.makeMap, go_sem]

set_option maxRecDepth 100000 in
set_option maxHeartbeats 1000000 in
theorem merge_any (cb fb n ccap : Nat) (qf : Nat → Fin 50) (lv cd : Nat → Int) (hg kn : Nat → Bool) (w : World) (hn : n ≤ 400) (hcf : cb ≠ fb) (hc : cb < w.heap.size) (hf : fb < w.heap.size)
    (S : Scan w cb n qf lv cd hg kn) (cf : Array Value) (hfb : w.heap[fb]? = some (.cells cf 3 (0, 0))) (hcf2 : cf.size = n) (OF : Nat → Int) (hOF0 : ∀ j, j < n → OF j = place (firsts qf n) (qf j)) :
    Calls Ybaf.prog 53 #[.slice (some ⟨cb, 0, none⟩) n ccap, .slice (some ⟨fb, 0, none⟩) n n] w fun e w' => ∃ mp, e = .returned (.agg #[.slice (some ⟨w.heap.size + 1, 0, none⟩) (firsts qf n).length n, .map mp]) ∧ Done w w' fb n mp (firsts qf n) OF (fun q => hiOf qf hg q n) (fun q => lvOf qf lv q n) := by
  have HOF : Hid (∀ j, j < n → OF j = place (firsts qf n) (qf j)) := hOF0
  clear hOF0
  obtain ⟨i0, hi, hz0, hz1, hz2⟩ := info_parts infoC
  have hmm := fun w => mk130 n w
  go_enter Ybaf.func53, Ybaf.ntmps53
  go_wp2_with (at_make; refine wpList_make_own _ rfl _ (.tmp 11) 126 rfl (w.heap.size + 1) 129 i0 _ 10 Ybaf.underlying126 hi hz0 hz1 .i64 .i64 n n rfl rfl rfl ?b2 ?b3 ?b4 ?next)
  case b2 => rw [hz2]; omega
  case b3 => unfold maxLen; omega
  case b4 => simp
  case next =>
    intro w1 ho hgr
    obtain ⟨cur, hcur, hcs⟩ : ∃ cur, w1.heap[w.heap.size + 1]? = some (.cells cur 129 (0, 0)) ∧ cur.size = n * 10 := by
      rcases ho.2 with ⟨h, _⟩ | ⟨g, c, cu, h, _, hh, _, _, hc, _⟩
      · cases h
      · simp only [Value.slice.injEq, Option.some.injEq, Addr.mk.injEq] at h
        obtain ⟨⟨rfl, _, _⟩, _, rfl⟩ := h
        exact ⟨cu, hh, hc⟩
    have hlt := lt_of_heap hcur
    clear ho
    have h0 : MS w (w1.alloc (.cells #[.slice (some ⟨w.heap.size + 1, 0, none⟩) 0 n, .map none] 132)) fb w1.heap.size n none [] OF 0 (fun q => hiOf qf hg q 0) (fun q => lvOf qf lv q 0) := by
      have hb1 : ∀ k, k < w.heap.size → w1.heap[k]? = w.heap[k]? := fun k hk => (hgr.block k (by simp; omega) (by simp)).trans (Below.heap_alloc _ _ _ hk)
      refine ⟨⟨hgr.os, hgr.tape, hgr.output, ?_, fun k hk _ => (Below.heap_alloc _ _ _ (by omega)).trans (hb1 k hk)⟩, by omega, ?_, ?_, fun mb e => (by cases e), ⟨cur, ?_, hcs, fun i hi => (by simp at hi)⟩, ⟨cf, ?_, hcf2, fun j hj => (by omega)⟩, List.nodup_nil⟩
      · simp; omega
      · exact (MapKept.heap_alloc w1 _).1
      · rw [Below.heap_alloc _ _ _ (by omega), hgr.block _ (by simp) (by simp)]; exact (MapKept.heap_alloc w _).1
      · rw [Below.heap_alloc _ _ _ (by omega)]; exact hcur
      · rw [Below.heap_alloc _ _ _ (by omega), hb1 _ hf]; exact hfb
    have h0' : MS w ((w1.alloc (.cells #[.slice (some ⟨w.heap.size + 1, 0, none⟩) 0 n, .map (some (w1.heap.size + 1))] 132)).alloc (.map #[] 0)) fb w1.heap.size n (some (w1.heap.size + 1)) [] OF 0 (fun q => hiOf qf hg q 0) (fun q => lvOf qf lv q 0) := by
      have hb1 : ∀ k, k < w.heap.size → w1.heap[k]? = w.heap[k]? := fun k hk => (hgr.block k (by simp; omega) (by simp)).trans (Below.heap_alloc _ _ _ hk)
      refine ⟨⟨hgr.os, hgr.tape, hgr.output, ?_, fun k hk _ => (Below.heap_alloc _ _ _ (by simp; omega)).trans ((Below.heap_alloc _ _ _ (by omega)).trans (hb1 k hk))⟩, by omega, ?_, ?_, fun mb e => ?_, ⟨cur, ?_, hcs, fun i hi => (by simp at hi)⟩, ⟨cf, ?_, hcf2, fun j hj => (by omega)⟩, List.nodup_nil⟩
      · simp; omega
      · rw [Below.heap_alloc _ _ _ (by simp)]; exact (MapKept.heap_alloc w1 _).1
      · rw [Below.heap_alloc _ _ _ (by simp; omega), Below.heap_alloc _ _ _ (by omega), hgr.block _ (by simp) (by simp)]; exact (MapKept.heap_alloc w _).1
      · cases e
        refine ⟨by omega, ?_⟩
        have := World.ownsMap_made (H := Unit) (w1.alloc (.cells #[.slice (some ⟨w.heap.size + 1, 0, none⟩) 0 n, .map (some (w1.heap.size + 1))] 132)) Ybaf.prog 60 (plainElem Ybaf.prog 3)
        rw [dat_nil]
        simpa using this
      · rw [Below.heap_alloc _ _ _ (by simp; omega), Below.heap_alloc _ _ _ (by omega)]; exact hcur
      · rw [Below.heap_alloc _ _ _ (by simp; omega), Below.heap_alloc _ _ _ (by omega), hb1 _ hf]; exact hfb
    have H0 : Hid _ := h0
    have H1 : Hid _ := h0'
    clear h0 h0'
    go_upto_if 16 with fail
    go_cut [] (fun wx => ∃ mp, MS w wx fb w1.heap.size n mp [] OF 0 (fun q => hiOf qf hg q 0) (fun q => lvOf qf lv q 0))
    case first =>
      by_cases hbig : (32 : Int) < (n : Int)
      · go_wp2_with fail
        go_meet
        exact ⟨_, H1.out⟩
      · go_wp2_with fail
        go_meet
        exact ⟨_, H0.out⟩
    case rest =>
      clear H0 H1 hgr hcur hcs hfb hcf2
      obtain ⟨mp, M0⟩ := hcut
      have hne := neq36 ⟨fb, 0, none⟩ n n
      go_wp2_with fail
      generalize w1.heap.size = tb at *
      go_loopw [23] (fun i wr => ∃ k : Nat, k ≤ n ∧ i = .int .i64 k ∧ MS w wr fb tb n mp (firsts qf k) OF k (fun q => hiOf qf hg q k) (fun q => lvOf qf lv q k)) (fun i _ => n - (intOf i).toNat)
      case atStart => exact ⟨0, Nat.zero_le _, rfl, M0⟩
      case round =>
        obtain ⟨k, hk, rfl, M⟩ := hrel
        by_cases hkn : k < n
        · have hkn' : (k : Int) < (n : Int) := by omega
          have S' := S.of_block (w' := wr) (M.g.block cb hc (by simpa using hcf))
          have q0 := S'.s0 k hkn
          have q1 := S'.s1 k hkn
          have q2 := S'.s2 k hkn
          have q3 := S'.s3 k hkn
          have q4 := S'.s4 k hkn
          have q5 := S'.s5 k hkn
          clear S'
          generalize hlk : lv k = l at q3
          generalize hgk : hg k = hb at q2
          have HL : Hid (lv k = l) := hlk
          have HG : Hid (hg k = hb) := hgk
          clear hlk hgk
          generalize cd k = d at q4
          generalize kn k = g at q5
          have hfd := fun W hM => find_any tb 0 (w.heap.size + 1) n mp (firsts qf k) (qf k) W hM
          go_wp2_with fail
          have M1 : MS w ((wr.alloc (.cells #[.string (kd (qf k)), .int .u16 (ka (qf k)), .bool hb, .int .i64 l, .int .u32 d, .bool g] 48)).alloc (.cells #[.string (kd (qf k)), .int .u16 (ka (qf k))] 60)) fb tb n mp (firsts qf k) OF k (fun q => hiOf qf hg q k) (fun q => lvOf qf lv q k) := M.next (bal (bal (Below.refl _ _)))
          refine (hfd _ M1.merged).mono ?_
          rintro e W0 ⟨rfl, m, rfl⟩
          have M2 := M1.next (wr' := (((wr.alloc (.cells #[.string (kd (qf k)), .int .u16 (ka (qf k)), .bool hb, .int .i64 l, .int .u32 d, .bool g] 48)).alloc (.cells #[.string (kd (qf k)), .int .u16 (ka (qf k))] 60)).alloc (.cells #[.string (kd (qf k)), .int .u16 (ka (qf k))] 60)).drewN m) (by have h := bal (o := .cells #[.string (kd (qf k)), .int .u16 (ka (qf k))] 60) (Below.refl _ ((wr.alloc (.cells #[.string (kd (qf k)), .int .u16 (ka (qf k)), .bool hb, .int .i64 l, .int .u32 d, .bool g] 48)).alloc (.cells #[.string (kd (qf k)), .int .u16 (ka (qf k))] 60))); exact h.trans ⟨rfl, rfl, rfl, Nat.le_refl _, fun _ _ => rfl⟩)
          have a2 : ((((wr.alloc (.cells #[.string (kd (qf k)), .int .u16 (ka (qf k)), .bool hb, .int .i64 l, .int .u32 d, .bool g] 48)).alloc (.cells #[.string (kd (qf k)), .int .u16 (ka (qf k))] 60)).alloc (.cells #[.string (kd (qf k)), .int .u16 (ka (qf k))] 60)).drewN m).cell? ⟨wr.heap.size, 2, none⟩ = some (.bool hb) := by simp [go_sem]
          have a3 : ((((wr.alloc (.cells #[.string (kd (qf k)), .int .u16 (ka (qf k)), .bool hb, .int .i64 l, .int .u32 d, .bool g] 48)).alloc (.cells #[.string (kd (qf k)), .int .u16 (ka (qf k))] 60)).alloc (.cells #[.string (kd (qf k)), .int .u16 (ka (qf k))] 60)).drewN m).cell? ⟨wr.heap.size, 3, none⟩ = some (.int .i64 l) := by simp [go_sem]
          have b0 : ((((wr.alloc (.cells #[.string (kd (qf k)), .int .u16 (ka (qf k)), .bool hb, .int .i64 l, .int .u32 d, .bool g] 48)).alloc (.cells #[.string (kd (qf k)), .int .u16 (ka (qf k))] 60)).alloc (.cells #[.string (kd (qf k)), .int .u16 (ka (qf k))] 60)).drewN m).cell? ⟨wr.heap.size + 1, 0, none⟩ = some (.string (kd (qf k))) := by simp [go_sem]
          have b1 : ((((wr.alloc (.cells #[.string (kd (qf k)), .int .u16 (ka (qf k)), .bool hb, .int .i64 l, .int .u32 d, .bool g] 48)).alloc (.cells #[.string (kd (qf k)), .int .u16 (ka (qf k))] 60)).alloc (.cells #[.string (kd (qf k)), .int .u16 (ka (qf k))] 60)).drewN m).cell? ⟨wr.heap.size + 1, 1, none⟩ = some (.int .u16 (ka (qf k))) := by simp [go_sem]
          generalize (((wr.alloc (.cells #[.string (kd (qf k)), .int .u16 (ka (qf k)), .bool hb, .int .i64 l, .int .u32 d, .bool g] 48)).alloc (.cells #[.string (kd (qf k)), .int .u16 (ka (qf k))] 60)).alloc (.cells #[.string (kd (qf k)), .int .u16 (ka (qf k))] 60)).drewN m = W at M2 a2 a3 b0 b1 ⊢
          have hNt : tb < wr.heap.size := lt_of_heap M.t
          have hN7 : w.heap.size + 1 < wr.heap.size := by obtain ⟨_, h1, _⟩ := M.row; exact lt_of_heap h1
          clear hfd M1 q0 q1 q2 q3 q4 q5
          generalize wr.heap.size = N7 at a2 a3 b0 b1 hN7 hNt ⊢
          clear M
          have hkl := firsts_len qf k
          go_upto_if 36 with fail
          go_cut [9] (fun v wx => v = .int .i64 (OF k) ∧ MS w wx fb tb n mp (firsts qf (k + 1)) OF k (fun q => hiOf qf hg q (k + 1)) (fun q => lvOf qf lv q (k + 1)))
          case first =>
            have HK : Hid (OF k = place (firsts qf (k + 1)) (qf k)) := (HOF.out k hkn).trans (place_stable qf (k + 1) n k (by omega) (by omega)).symm
            have hT := M2.t
            have t0 : W.cell? ⟨tb, 0, none⟩ = some (.slice (some ⟨w.heap.size + 1, 0, none⟩) (firsts qf k).length n) := cell_of hT rfl
            have t1 : W.cell? ⟨tb, 1, none⟩ = some (.map mp) := cell_of hT rfl
            have tf : W.frozen? ⟨tb, 0, none⟩ = false := fz_of hT
            clear hT
            by_cases hin : qf k ∈ firsts qf k
            · have hfs : firsts qf (k + 1) = firsts qf k := by
                show (if qf k ∈ firsts qf k then firsts qf k else firsts qf k ++ [qf k]) = _
                rw [if_pos hin]
              rw [hfs] at HK
              have HF : Hid (firsts qf (k + 1) = firsts qf k) := hfs
              clear hfs
              obtain ⟨i, hi, hpl, hgd0⟩ : ∃ i : Nat, i < (firsts qf k).length ∧ place (firsts qf k) (qf k) = (i : Int) ∧ (firsts qf k).getD i 0 = qf k := ⟨_, List.idxOf_lt_length_of_mem hin, by unfold place; rw [if_pos hin], by
                have hl := List.idxOf_lt_length_of_mem hin
                simp [List.getD, hl]⟩
              have HK2 : Hid (OF k = (i : Int)) := HK.out.trans hpl
              rw [hpl]
              clear hpl HK
              have hgd : (firsts qf k).getD i 0 = qf k := hgd0
              obtain ⟨cur', hc1, hc2, hc3⟩ := M2.row
              have hc3 := hc3 i hi
              rw [hgd] at hc3
              have e8 : cur'[i * 10 + 8]? = some (.bool (hiOf qf hg (qf k) k)) := hc3 8 (by omega)
              have r8 := cell_of hc1 e8
              have f8 : W.frozen? ⟨w.heap.size + 1, i * 10 + 8, none⟩ = false := fz_of hc1
              clear hc1 hc2 hc3 e8
              have hi' : (i : Int) < ((firsts qf k).length : Int) := by omega
              have hi0 : ¬ (i : Int) < 0 := by omega
              have hd0 : decide ((i : Int) < 0) = false := by simp
              have hDt : w.heap.size + 1 ≠ tb := by omega
              have hDn : w.heap.size + 1 ≠ N7 := by omega
              have nH : ∀ r, r ≠ (firsts qf k).getD i 0 → hiOf qf hg r (k + 1) = hiOf qf hg r k := fun r hr => by rw [hgd] at hr; exact if_neg (fun e => hr e.symm)
              have nL : ∀ r, r ≠ (firsts qf k).getD i 0 → lvOf qf lv r (k + 1) = lvOf qf lv r k := fun r hr => by rw [hgd] at hr; exact if_neg (fun e => hr e.symm)
              have vH : hiOf qf hg (qf k) (k + 1) = (hiOf qf hg (qf k) k || hb) := by rw [← HG.out]; exact if_pos rfl
              have vL : lvOf qf lv (qf k) (k + 1) = max (lvOf qf lv (qf k) k) l := by rw [← HL.out]; exact (if_pos rfl).trans (if_pos hin)
              have M3 : Hid (∀ b : Bool, b = (hiOf qf hg (qf k) k || hb) → MS w ((W.setCell ⟨w.heap.size + 1, i * 10 + 8, none⟩ (.bool b)).drew) fb tb n mp (firsts qf k) OF k (fun q => hiOf qf hg q (k + 1)) (fun q => lvOf qf lv q k)) := fun b hbb => (M2.cand (gH' := fun q => hiOf qf hg q (k + 1)) (gL' := fun q => lvOf qf lv q k) hf i hi (.bool b) 8 nH (fun _ _ => rfl) (.inr ⟨rfl, by simp only [hgd, vH, hbb], rfl⟩)).next ⟨rfl, rfl, rfl, Nat.le_refl _, fun _ _ => rfl⟩
              have M4 : Hid (∀ (W : World) (l' : Int), l' = max (lvOf qf lv (qf k) k) l → MS w W fb tb n mp (firsts qf k) OF k (fun q => hiOf qf hg q (k + 1)) (fun q => lvOf qf lv q k) → MS w ((W.setCell ⟨w.heap.size + 1, i * 10 + 2, none⟩ (.int .i64 l')).drew) fb tb n mp (firsts qf k) OF k (fun q => hiOf qf hg q (k + 1)) (fun q => lvOf qf lv q (k + 1))) := fun W l' hl' h => (h.cand (gH' := fun q => hiOf qf hg q (k + 1)) (gL' := fun q => lvOf qf lv q (k + 1)) hf i hi (.int .i64 l') 2 (fun _ _ => rfl) nL (.inl ⟨rfl, by simp only [hgd, vL, hl'], rfl⟩)).next ⟨rfl, rfl, rfl, Nat.le_refl _, fun _ _ => rfl⟩
              have T0 : Hid (∀ (W : World), MS w W fb tb n mp (firsts qf k) OF k (fun q => hiOf qf hg q (k + 1)) (fun q => lvOf qf lv q k) → W.cell? ⟨tb, 0, none⟩ = some (.slice (some ⟨w.heap.size + 1, 0, none⟩) (firsts qf k).length n)) := fun W h => cell_of h.t rfl
              have R2 : Hid (∀ (W : World), MS w W fb tb n mp (firsts qf k) OF k (fun q => hiOf qf hg q (k + 1)) (fun q => lvOf qf lv q k) → W.cell? ⟨w.heap.size + 1, i * 10 + 2, none⟩ = some (.int .i64 (lvOf qf lv (qf k) k)) ∧ W.frozen? ⟨w.heap.size + 1, i * 10 + 2, none⟩ = false) := fun W h => by
                obtain ⟨cur', hc1, hc2, hc3⟩ := h.row
                have hc3 := hc3 i hi
                rw [hgd] at hc3
                have e2 : cur'[i * 10 + 2]? = some (.int .i64 (lvOf qf lv (qf k) k)) := hc3 2 (by omega)
                exact ⟨cell_of hc1 e2, fz_of hc1⟩
              clear t1 tf b0 b1 nH nL vH vL hgd
              generalize w.heap.size + 1 = D at *
              generalize hiOf qf hg (qf k) k = bx at r8 M3
              generalize lvOf qf lv (qf k) k = lx at M4 R2
              cases bx
              · cases hb
                · go_wp2_with fail
                  go_region
                  have M5 := M3.out false rfl
                  have a3' : ((W.setCell ⟨D, i * 10 + 8, none⟩ (.bool false)).drew).cell? ⟨N7, 3, none⟩ = some (.int .i64 l) := cell_drew (cell_set a3 hDn.symm)
                  generalize (W.setCell ⟨D, i * 10 + 8, none⟩ (.bool false)).drew = W5 at *
                  obtain ⟨r2, f2⟩ := R2.out W5 M5
                  have t0' := T0.out W5 M5
                  clear M3 T0 R2 t0 r8 f8 a2 a3
                  go_wp2_with fail
                  go_region
                  go_wp2_with fail
                  all_goals go_meet
                  all_goals exact ⟨by rw [HK2.out], by rw [HF.out]; exact M4.out W5 _ (by omega) M5⟩
                · go_wp2_with fail
                  go_region
                  have M5 := M3.out true rfl
                  have a3' : ((W.setCell ⟨D, i * 10 + 8, none⟩ (.bool true)).drew).cell? ⟨N7, 3, none⟩ = some (.int .i64 l) := cell_drew (cell_set a3 hDn.symm)
                  generalize (W.setCell ⟨D, i * 10 + 8, none⟩ (.bool true)).drew = W5 at *
                  obtain ⟨r2, f2⟩ := R2.out W5 M5
                  have t0' := T0.out W5 M5
                  clear M3 T0 R2 t0 r8 f8 a2 a3
                  go_wp2_with fail
                  go_region
                  go_wp2_with fail
                  all_goals go_meet
                  all_goals exact ⟨by rw [HK2.out], by rw [HF.out]; exact M4.out W5 _ (by omega) M5⟩
              · go_wp2_with fail
                go_region
                have M5 := M3.out true rfl
                have a3' : ((W.setCell ⟨D, i * 10 + 8, none⟩ (.bool true)).drew).cell? ⟨N7, 3, none⟩ = some (.int .i64 l) := cell_drew (cell_set a3 hDn.symm)
                generalize (W.setCell ⟨D, i * 10 + 8, none⟩ (.bool true)).drew = W5 at *
                obtain ⟨r2, f2⟩ := R2.out W5 M5
                have t0' := T0.out W5 M5
                clear M3 T0 R2 t0 r8 f8 a2 a3
                go_wp2_with fail
                go_region
                go_wp2_with fail
                all_goals go_meet
                all_goals exact ⟨by rw [HK2.out], by rw [HF.out]; exact M4.out W5 _ (by omega) M5⟩
            · have hfs : firsts qf (k + 1) = firsts qf k ++ [qf k] := by
                show (if qf k ∈ firsts qf k then firsts qf k else firsts qf k ++ [qf k]) = _
                rw [if_neg hin]
              have hpl : place (firsts qf k) (qf k) = -1 := by unfold place; rw [if_neg hin]
              have HK2 : Hid (OF k = ((firsts qf k).length : Int)) := by
                show _ = _
                rw [HK.out, hfs, place, if_pos (by simp), List.idxOf_append]
                simp [hin]
              have HF : Hid (firsts qf (k + 1) = firsts qf k ++ [qf k]) := hfs
              rw [hpl]
              clear hpl HK hfs
              have M3 : MS w (W.alloc (.cells (news (qf k) hb l).toArray 129)) fb tb n mp (firsts qf k) OF k (fun q => hiOf qf hg q k) (fun q => lvOf qf lv q k) := M2.next (bal (Below.refl _ _))
              obtain ⟨xs, hown, hxl, hxs⟩ := M3.owns (by omega) hn
              go_wp2_with (at_builtin; refine wpList_append_own_spare _ rfl _ _ 126 rfl (w.heap.size + 1) 129 i0 10 Ybaf.underlying126 hi hz1 (w.heap.size + 1) (firsts qf k).length n xs rfl hown ⟨W.heap.size, 0, none⟩ 1 1 (news (qf k) hb l) rfl ?hl ?hnews ?h1 ?hroom ?next)
              case hl => rfl
              case hnews =>
                intro j u hj
                rw [add0]
                refine cell_of (MapKept.heap_alloc W _).1 ?_
                rw [Nat.zero_add]
                rw [← List.getElem?_toArray] at hj
                exact hj
              case h1 =>
                intro u hu
                simp at hu
                rcases hu with rfl | rfl | rfl | rfl | rfl | rfl | rfl <;> rfl
              case hroom => omega
              case next =>
                intro w2 ho2 hg2
                have hWN : N7 + 1 < W.heap.size := by
                  refine Nat.lt_of_not_le fun hle => ?_
                  unfold World.cell? at b0
                  rw [Array.getElem?_eq_none hle] at b0
                  cases b0
                have hWt := lt_of_heap M2.t
                have keep : ∀ b, b < W.heap.size → b ≠ w.heap.size + 1 → w2.heap[b]? = W.heap[b]? := fun b hb hne => (hg2.block b (by simp; omega) (by simpa using hne)).trans (Below.heap_alloc _ _ _ hb)
                have t0' : w2.cell? ⟨tb, 0, none⟩ = some (.slice (some ⟨w.heap.size + 1, 0, none⟩) (firsts qf k).length n) := (World.cell?_of_block (w := W) (keep tb hWt (by omega))).trans t0
                have t1' : w2.cell? ⟨tb, 1, none⟩ = some (.map mp) := (World.cell?_of_block (w := W) (a := ⟨tb, 1, none⟩) (keep tb hWt (by omega))).trans t1
                have tf' : w2.frozen? ⟨tb, 0, none⟩ = false := (World.frozen?_of_block (w := W) (keep tb hWt (by omega))).trans tf
                have c0' : w2.cell? ⟨N7 + 1, 0, none⟩ = some (.string (kd (qf k))) := (World.cell?_of_block (w := W) (a := ⟨N7 + 1, 0, none⟩) (keep (N7 + 1) hWN (by omega))).trans b0
                have c1' : w2.cell? ⟨N7 + 1, 1, none⟩ = some (.int .u16 (ka (qf k))) := (World.cell?_of_block (w := W) (a := ⟨N7 + 1, 1, none⟩) (keep (N7 + 1) hWN (by omega))).trans b1
                have vH : hiOf qf hg (qf k) (k + 1) = hb := by rw [← HG.out]; exact (if_pos rfl).trans (by rw [hiOf_none qf hg (qf k) k hin]; rfl)
                have vL : lvOf qf lv (qf k) (k + 1) = l := by rw [← HL.out]; exact (if_pos rfl).trans (if_neg hin)
                rw [← vH, ← vL] at ho2
                have hfin := fun w3 => M2.app (w3 := w3) (gH' := fun q => hiOf qf hg q (k + 1)) (gL' := fun q => lvOf qf lv q (k + 1)) hf (bal (Below.refl _ _)) hg2 ho2 hxl hxs hin (fun r hr => if_neg (fun e => hin (by rw [e]; exact hr))) (fun r hr => if_neg (fun e => hin (by rw [e]; exact hr)))
                clear vH vL
                have hN7t : N7 + 1 ≠ tb := by omega
                have own2 : ∀ mb, mp = some mb → (w2.setCell ⟨tb, 0, none⟩ (.slice (some ⟨w.heap.size + 1, 0, none⟩) ((firsts qf k).length + 1) n)).ownsMap (H := Unit) Ybaf.prog 60 (plainElem Ybaf.prog 3) mb (firsts qf k).length (dat (firsts qf k)) := fun mb e => by
                  obtain ⟨e1, es, cl, h1, h2⟩ := M2.own mb e
                  have hl := M2.lt
                  exact ⟨es, cl, by rw [Below.heap_setCell _ _ _ _ (show mb ≠ tb by omega), keep mb (lt_of_heap h1) (by omega)]; exact h1, h2⟩
                clear hWN keep t0 t1 tf b0 b1 hown ho2 hg2
                cases mp with
                | none =>
                  have hz := neq95n
                  go_wp2_with fail
                  go_meet
                  exact ⟨by rw [HK2.out], by rw [HF.out]; exact hfin _ (World.grownBy.refl _ _) (fun mb e => by cases e)⟩
                | some mb =>
                  have hz := neq130 mb
                  have hown := own2 mb rfl
                  have hfin' : Hid _ := hfin
                  clear own2 hfin
                  go_wp2_with (at_mapUpdate; refine wpList_mapUpdate_own _ rfl _ _ _ 130 rfl 60 3 law60 Ybaf.underlying130 _ mb (firsts qf k).length _ rfl hown ?b1 _ _ _ rfl rfl (key60 (qf k)) _ [] (plainElem_int Ybaf.underlying3 ?b2) ?next2)
                  case b1 => unfold maxLen; omega
                  case b2 => exact WalkArith.wf_i64 (by omega)
                  case next2 =>
                    intro w3 ho3 hg3
                    go_wp2_with fail
                    go_meet
                    exact ⟨by rw [HK2.out], by rw [HF.out]; exact hfin'.out w3 hg3 (fun mb' e => by cases e; rw [dat_snoc]; exact ho3)⟩
          case rest =>
            obtain ⟨rfl, M3⟩ := hcut
            obtain ⟨cf', h1, h2, h3⟩ := M3.of
            obtain ⟨v, hv⟩ : ∃ v, cf'[k]? = some v := ⟨cf'[k]'(by omega), by simp [show k < cf'.size by omega]⟩
            have c1 := cell_of h1 hv
            have c2 : wc.frozen? ⟨fb, k, none⟩ = false := fz_of h1
            go_wp2_with fail
            go_roundw
            case rel => exact ⟨k + 1, by omega, by go_num, M3.noted hf hkn⟩
            case measure => simp [intOf]; omega
        · have e : k = n := by omega
          subst e
          have t0 : wr.cell? ⟨tb, 0, none⟩ = some (.slice (some ⟨w.heap.size + 1, 0, none⟩) (firsts qf k).length k) := cell_of M.t rfl
          have t1 : wr.cell? ⟨tb, 1, none⟩ = some (.map mp) := cell_of M.t rfl
          have r0 : wr.cell? ⟨w.heap.size, 0, none⟩ = some (.slice none 0 0) := cell_of M.r rfl
          have r1 : wr.cell? ⟨w.heap.size, 1, none⟩ = some (.map none) := cell_of M.r rfl
          have f0 : wr.frozen? ⟨w.heap.size, 0, none⟩ = false := fz_of M.r
          have f1 : wr.frozen? ⟨w.heap.size, 1, none⟩ = false := fz_of M.r
          have D := M.done hf (.slice (some ⟨w.heap.size + 1, 0, none⟩) (firsts qf k).length k) (.map mp)
          have z0 : ((wr.setCell ⟨w.heap.size, 0, none⟩ (.slice (some ⟨w.heap.size + 1, 0, none⟩) (firsts qf k).length k)).setCell ⟨w.heap.size, 1, none⟩ (.map mp)).cell? ⟨w.heap.size, 0, none⟩ = some (.slice (some ⟨w.heap.size + 1, 0, none⟩) (firsts qf k).length k) := cell_of (heap_set _ (heap_set _ M.r)) (by simp)
          have z1 : ((wr.setCell ⟨w.heap.size, 0, none⟩ (.slice (some ⟨w.heap.size + 1, 0, none⟩) (firsts qf k).length k)).setCell ⟨w.heap.size, 1, none⟩ (.map mp)).cell? ⟨w.heap.size, 1, none⟩ = some (.map mp) := cell_of (heap_set _ (heap_set _ M.r)) (by simp)
          go_wp2_with fail
          generalize (wr.setCell ⟨w.heap.size, 0, none⟩ (.slice (some ⟨w.heap.size + 1, 0, none⟩) (firsts qf k).length k)).setCell ⟨w.heap.size, 1, none⟩ (.map mp) = W9 at D z0 z1 ⊢
          exact bodyPost_ret (v := .agg #[.slice (some ⟨w.heap.size + 1, 0, none⟩) (firsts qf k).length k, .map mp]) (by simp [results, Ybaf.results53, go_sem, z0, z1]) rfl ⟨mp, rfl, D⟩
end Go.Proofs.YbulkcuegFmt
