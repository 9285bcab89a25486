import Derived.Test.YbulkcuegFmtSym
namespace Go.Proofs.YbulkcuegFmt
open Go.RowKit

set_option maxRecDepth 100000 in
set_option maxHeartbeats 2000000 in
theorem stable_any (bl o n cap N g : Nat) (cb : Array Value) (κ : Int → Int) (ok : Int → Prop) (D : Nat → Int) (W0 W : World) (eg : ∀ args w, (callFunc g args).run Ybaf.prog w = .ok (.enter g args) w)
    (hc : Cm W0 bl g cb κ ok) (hW : W0.grownBy W (some bl)) (hN : o + n ≤ N) (hn : n ≤ 39) (R : Rw W bl N D) (hok : ∀ x, o ≤ x → x < o + n → ok (D x)) :
    Calls Ybaf.prog 49 #[.slice (some ⟨bl, o, none⟩) n cap, .int .i64 n, .func (.func g) #[] cb] W fun e W' => e = .returned (.tuple #[]) ∧ W0.grownBy W' (some bl) ∧ ∃ D', Rw W' bl N D' ∧ Srt κ D D' o (o + n) := by
  by_cases h20 : n < 20
  · have hn1 : ¬ (20 : Int) ≤ (n : Int) := by omega
    have hn2 : ¬ (20 : Int) < (n : Int) := by omega
    by_cases h0 : n = 0
    · subst h0
      have hi := ins_none bl o 0 cap 0 (.func (.func g) #[] cb) W (by omega)
      go_enter Ybaf.func49, Ybaf.ntmps49
      go_wp2_with fail
      refine wp_loop_rounds 1 ?_
      rw [rounds_succ]
      go_wp2_with fail
      refine hi.mono ?_
      rintro e w1 ⟨rfl, rfl⟩
      go_wp2_with fail
      refine wp_loop_rounds 1 ?_
      rw [rounds_succ]
      go_wp2_with fail
      go_end0
      exact ⟨rfl, hW, D, R, Srt.id (fun x y h1 h2 h3 => by omega)⟩
    · have hi := ins_any bl o n cap N 0 n g cb κ ok D W0 W eg hc hW hN (by omega) (Nat.le_refl _) (by omega) R hok
      go_enter Ybaf.func49, Ybaf.ntmps49
      go_wp2_with fail
      refine wp_loop_rounds 1 ?_
      rw [rounds_succ]
      go_wp2_with fail
      refine hi.mono ?_
      rintro e w1 ⟨rfl, hg1, D1, R1, S1⟩
      go_wp2_with fail
      refine wp_loop_rounds 1 ?_
      rw [rounds_succ]
      go_wp2_with fail
      go_end0
      exact ⟨rfl, hg1, D1, R1, S1⟩
  · have hn1 : (20 : Int) ≤ (n : Int) := by omega
    have hn3 : ¬ (40 : Int) ≤ (n : Int) := by omega
    have hn4 : ¬ (40 : Int) < (n : Int) := by omega
    have hi := ins_any bl o n cap N 0 20 g cb κ ok D W0 W eg hc hW hN (by omega) (by omega) (by omega) R (fun x h1 h2 => hok x h1 (by omega))
    go_enter Ybaf.func49, Ybaf.ntmps49
    go_wp2_with fail
    refine wp_loop_rounds 2 ?_
    rw [rounds_succ]
    go_wp2_with fail
    refine hi.mono ?_
    rintro e w1 ⟨rfl, hg1, D1, R1, S1⟩
    have hok1 := S1.okk (l := o) (r := o + n) (by omega) (by omega) hok
    have HH : Hid _ := And.intro hg1 (And.intro R1 S1)
    by_cases h21 : n = 20
    · subst h21
      have hi2 := ins_none bl o 20 cap 20 (.func (.func g) #[] cb) w1 (by omega)
      clear hg1 R1 S1 hok1
      go_wp2_with fail
      rw [rounds_succ]
      go_wp2_with fail
      refine hi2.mono ?_
      rintro e w2 ⟨rfl, rfl⟩
      go_wp2_with fail
      refine wp_loop_rounds 1 ?_
      rw [rounds_succ]
      go_wp2_with fail
      go_end0
      exact ⟨rfl, HH.out.1, D1, HH.out.2.1, HH.out.2.2⟩
    · have hn2 : (20 : Int) < (n : Int) := by omega
      have hi2 := ins_any bl o n cap N 20 n g cb κ ok D1 W0 w1 eg hc hg1 hN (by omega) (Nat.le_refl _) (by omega) R1 (fun x h1 h2 => hok1 x (by omega) h2)
      clear hg1 R1 S1
      go_wp2_with fail
      rw [rounds_succ]
      go_wp2_with fail
      refine hi2.mono ?_
      rintro e w2 ⟨rfl, hg2, D2, R2, S2⟩
      have hs : Asc κ D2 (o + 0) (o + 20) := fun x y h1 h2 h3 => by rw [S2.out x (.inl (by omega)), S2.out y (.inl h3)]; exact HH.out.2.2.srt x y h1 h2 h3
      have hm := sym_any bl o n cap N g cb κ ok W0 eg hc hN (by omega) (n + 1) 0 20 n D2 w2 (by omega) hg2 (by omega) (by omega) (Nat.le_refl _) R2 (S2.okk (l := o) (r := o + n) (by omega) (by omega) hok1) hs S2.srt
      have H2 : Hid _ := S2
      clear hg2 R2 hs S2 hi hi2 hok1
      go_wp2_with fail
      refine wp_loop_rounds 2 ?_
      rw [rounds_succ]
      go_wp2_with fail
      refine wp_loop_rounds 1 ?_
      rw [rounds_succ]
      go_wp2_with fail
      refine hm.mono ?_
      rintro e w3 ⟨rfl, hg3, D3, R3, S3⟩
      have HF : Hid _ := And.intro hg3 (And.intro R3 S3)
      clear hg3 R3 S3 hm
      go_wp2_with fail
      rw [rounds_succ]
      go_wp2_with fail
      go_end0
      refine ⟨rfl, HF.out.1, D3, HF.out.2.1, ?_⟩
      refine ⟨HF.out.2.2.perm.trans ?_, fun x hx => (HF.out.2.2.out x hx).trans ((H2.out.out x (by omega)).trans (HH.out.2.2.out x (by omega))), HF.out.2.2.srt⟩
      have p1 : (seg D1 o (o + n)).Perm (seg D o (o + n)) := by
        rw [seg_split D1 (show o ≤ o + 20 by omega) (show o + 20 ≤ o + n by omega), seg_split D (show o ≤ o + 20 by omega) (show o + 20 ≤ o + n by omega), seg_congr (D := D1) (D' := D) (a := o + 20) (b := o + n) (fun x hx _ => HH.out.2.2.out x (.inr hx))]
        exact List.Perm.append_right _ HH.out.2.2.perm
      have p2 : (seg D2 o (o + n)).Perm (seg D1 o (o + n)) := by
        rw [seg_split D2 (show o ≤ o + 20 by omega) (show o + 20 ≤ o + n by omega), seg_split D1 (show o ≤ o + 20 by omega) (show o + 20 ≤ o + n by omega), seg_congr (D := D2) (D' := D1) (a := o) (b := o + 20) (fun x _ hx => H2.out.out x (.inl hx))]
        exact List.Perm.append_left _ H2.out.perm
      exact p2.trans p1

set_option maxRecDepth 100000 in
set_option maxHeartbeats 2000000 in
theorem sortStable_any (bl o n cap N g : Nat) (cb : Array Value) (κ : Int → Int) (ok : Int → Prop) (D : Nat → Int) (W0 W : World) (eg : ∀ args w, (callFunc g args).run Ybaf.prog w = .ok (.enter g args) w)
    (hc : Cm W0 bl g cb κ ok) (hW : W0.grownBy W (some bl)) (hN : o + n ≤ N) (hn : n ≤ 39) (R : Rw W bl N D) (hok : ∀ x, o ≤ x → x < o + n → ok (D x)) :
    Calls Ybaf.prog 35 #[.slice (some ⟨bl, o, none⟩) n cap, .func (.func g) #[] cb] W fun e W' => e = .returned (.tuple #[]) ∧ W0.grownBy W' (some bl) ∧ ∃ D', Rw W' bl N D' ∧ Srt κ D D' o (o + n) := by
  have hs := stable_any bl o n cap N g cb κ ok D W0 W eg hc hW hN hn R hok
  clear hc hW hok R
  go_enter Ybaf.func35, Ybaf.ntmps35
  go_wp2_with fail
  refine hs.mono ?_
  rintro e w1 ⟨rfl, hg1, D1, R1, S1⟩
  go_wp2_with fail
  go_end0
  exact ⟨rfl, hg1, D1, R1, S1⟩
end Go.Proofs.YbulkcuegFmt
