import Derived.Test.YbulkcuegFmtP5
namespace Go.Proofs.YbulkcuegFmt
open Go.RowKit Go.Maps

theorem uq_nodup (xs : Nat → Int) (k : Nat) : (uq xs k).Nodup := by
  induction k with
  | zero => exact List.nodup_nil
  | succ k ih =>
    unfold uq
    split
    · exact ih
    · rename_i h
      refine List.nodup_append.2 ⟨ih, by simp, fun a ha b hb e => ?_⟩
      simp at hb
      subst hb
      exact h (by rw [← e]; exact ha)
theorem uq_range (xs : Nat → Int) (k : Nat) : ∀ x ∈ uq xs k, 0 ≤ x ∧ x < 9 := by
  induction k with
  | zero => intro x hx; simp [uq] at hx
  | succ k ih =>
    unfold uq
    split
    · exact ih
    · intro x hx
      rw [List.mem_append] at hx
      rcases hx with hx | hx
      · exact ih x hx
      · simp at hx
        omega
theorem uniqU {W : World} {va : Option Addr} {n : Nat} {xs : Nat → Int} (h : U8R W va n xs) (hn : n ≤ 300) (cap : Nat) :
    Calls Ybaf.prog 4 #[.slice va n cap] W fun e W' => ∃ v, e = .returned v ∧ RowV W' v (uq xs n).length (fun i => .int .u16 ((uq xs n).getD i 0)) ∧ Below W.heap.size W W' := by
  have key : ∀ W' v, W'.ownsRow W.heap.size 43 1 v (uq xs n).length ((uq xs n).map (Value.int .u16)) → RowV W' v (uq xs n).length (fun i => .int .u16 ((uq xs n).getD i 0)) := fun W' v ho => by
    refine rowV_of_owns (base := W.heap.size) (e := 43) ?_
    have : (List.range (uq xs n).length).map (fun i => Value.int .u16 ((uq xs n).getD i 0)) = (uq xs n).map (Value.int .u16) := by
      refine List.ext_getElem (by simp) fun i h1 h2 => ?_
      simp at h1 h2 ⊢
      simp [h1]
    rw [this]
    exact ho
  by_cases h0 : 0 < n
  · obtain ⟨b, o, e, hb, hc⟩ := h.2 h0
    exact (uniq_any va b o n cap xs W hn (fun _ => ⟨e, hb⟩) hc h.1).mono fun e W' ⟨v, h1, h2, h3⟩ => ⟨v, h1, key W' v h2, h3⟩
  · exact (uniq_any va 0 0 n cap xs W hn (fun h => absurd h h0) (fun i hi => absurd hi (by omega)) h.1).mono fun e W' ⟨v, h1, h2, h3⟩ => ⟨v, h1, key W' v h2, h3⟩

set_option maxRecDepth 1000000 in
set_option maxHeartbeats 2000000 in
theorem law_big (mn : Bool) (rI : Int) (oa : Option Addr) (n oc : Nat) (xa : Option Addr) (nx xc : Nat) (ya : Option Addr) (ny yc : Nat) (ga : Option Addr) (ng gc : Nat) (ea : Option Addr) (ne ec : Nat) (ra : Option Addr) (nr rc : Nat) (w : World) (hm : n ≤ maxLen ∧ nx ≤ maxLen ∧ ny ≤ maxLen ∧ ng ≤ maxLen ∧ ne ≤ maxLen ∧ nr ≤ maxLen) (hbig : (300 < n) ∨ (n ≤ 300 ∧ 300 < nx) ∨ (n ≤ 300 ∧ nx ≤ 300 ∧ 300 < ny) ∨ (n ≤ 300 ∧ nx ≤ 300 ∧ ny ≤ 300 ∧ 300 < ng) ∨ (n ≤ 300 ∧ nx ≤ 300 ∧ ny ≤ 300 ∧ ng ≤ 300 ∧ 300 < ne) ∨ (n ≤ 300 ∧ nx ≤ 300 ∧ ny ≤ 300 ∧ ng ≤ 300 ∧ ne ≤ 300 ∧ 300 < nr)) : Calls Ybaf.prog 3 #[.slice oa n oc, .slice xa nx xc, .slice ya ny yc, .slice ga ng gc, .int .u8 rI, .slice ea ne ec, .bool mn, .slice ra nr rc] w fun e w' => e = .returned (.bool true) ∧ Below w.heap.size w w' := by
  unfold maxLen at hm
  obtain ⟨m0, m1, m2, m3, m4, m5⟩ := hm
  rcases hbig with hb | hb | hb | hb | hb | hb
  · skip
    have q0 : (n : Int) > 300 := by omega
    have p0 : (300 : Int) < (n : Int) := by omega
    go_enter Ybaf.func3, Ybaf.ntmps3
    go_wp2_with fail
    go_ret
    exact ⟨rfl, Below.refl _ _⟩
  · skip
    have q0 : ¬ (n : Int) > 300 := by omega
    have q1 : (nx : Int) > 300 := by omega
    have p0 : ¬ (300 : Int) < (n : Int) := by omega
    have p1 : (300 : Int) < (nx : Int) := by omega
    go_enter Ybaf.func3, Ybaf.ntmps3
    go_wp2_with fail
    go_ret
    exact ⟨rfl, Below.refl _ _⟩
  · skip
    have q0 : ¬ (n : Int) > 300 := by omega
    have q1 : ¬ (nx : Int) > 300 := by omega
    have q2 : (ny : Int) > 300 := by omega
    have p0 : ¬ (300 : Int) < (n : Int) := by omega
    have p1 : ¬ (300 : Int) < (nx : Int) := by omega
    have p2 : (300 : Int) < (ny : Int) := by omega
    go_enter Ybaf.func3, Ybaf.ntmps3
    go_wp2_with fail
    go_ret
    exact ⟨rfl, Below.refl _ _⟩
  · skip
    have q0 : ¬ (n : Int) > 300 := by omega
    have q1 : ¬ (nx : Int) > 300 := by omega
    have q2 : ¬ (ny : Int) > 300 := by omega
    have q3 : (ng : Int) > 300 := by omega
    have p0 : ¬ (300 : Int) < (n : Int) := by omega
    have p1 : ¬ (300 : Int) < (nx : Int) := by omega
    have p2 : ¬ (300 : Int) < (ny : Int) := by omega
    have p3 : (300 : Int) < (ng : Int) := by omega
    go_enter Ybaf.func3, Ybaf.ntmps3
    go_wp2_with fail
    go_ret
    exact ⟨rfl, Below.refl _ _⟩
  · skip
    have q0 : ¬ (n : Int) > 300 := by omega
    have q1 : ¬ (nx : Int) > 300 := by omega
    have q2 : ¬ (ny : Int) > 300 := by omega
    have q3 : ¬ (ng : Int) > 300 := by omega
    have q4 : (ne : Int) > 300 := by omega
    have p0 : ¬ (300 : Int) < (n : Int) := by omega
    have p1 : ¬ (300 : Int) < (nx : Int) := by omega
    have p2 : ¬ (300 : Int) < (ny : Int) := by omega
    have p3 : ¬ (300 : Int) < (ng : Int) := by omega
    have p4 : (300 : Int) < (ne : Int) := by omega
    go_enter Ybaf.func3, Ybaf.ntmps3
    go_wp2_with fail
    go_ret
    exact ⟨rfl, Below.refl _ _⟩
  · skip
    have q0 : ¬ (n : Int) > 300 := by omega
    have q1 : ¬ (nx : Int) > 300 := by omega
    have q2 : ¬ (ny : Int) > 300 := by omega
    have q3 : ¬ (ng : Int) > 300 := by omega
    have q4 : ¬ (ne : Int) > 300 := by omega
    have q5 : (nr : Int) > 300 := by omega
    have p0 : ¬ (300 : Int) < (n : Int) := by omega
    have p1 : ¬ (300 : Int) < (nx : Int) := by omega
    have p2 : ¬ (300 : Int) < (ny : Int) := by omega
    have p3 : ¬ (300 : Int) < (ng : Int) := by omega
    have p4 : ¬ (300 : Int) < (ne : Int) := by omega
    have p5 : (300 : Int) < (nr : Int) := by omega
    go_enter Ybaf.func3, Ybaf.ntmps3
    go_wp2_with fail
    go_ret
    exact ⟨rfl, Below.refl _ _⟩

set_option maxRecDepth 1000000 in
set_option maxHeartbeats 2000000 in
theorem law (mn : Bool) (rI : Int) (oa : Option Addr) (n oc : Nat) (xa : Option Addr) (nx xc : Nat) (ya : Option Addr) (ny yc : Nat) (ga : Option Addr) (ng gc : Nat) (ea : Option Addr) (ne ec : Nat) (ra : Option Addr) (nr rc : Nat) (op oA ol : Nat → Int) (oh : Nat → Bool) (xs ys gs es vals : Nat → Int) (w : World) (O : ObsR w oa n op oA oh ol) (A : U8R w xa nx xs) (C : U8R w ya ny ys) (G : U8R w ga ng gs) (E : U8R w ea ne es) (R : RowV w (.slice ra nr rc) nr (fun i => .int .u64 (vals i))) (rg : ∀ i, i < nr → 0 ≤ vals i ∧ vals i ≤ 18446744073709551615)
    (hn : n ≤ 300) (hnx : nx ≤ 300) (hny : ny ≤ 300) (hng : ng ≤ 300) (hne : ne ≤ 300) (hnr : nr ≤ 300) (hrI : 0 ≤ rI ∧ rI ≤ 255) : Calls Ybaf.prog 3 #[.slice oa n oc, .slice xa nx xc, .slice ya ny yc, .slice ga ng gc, .int .u8 rI, .slice ea ne ec, .bool mn, .slice ra nr rc] w fun e w' => e = .returned (.bool true) ∧ Below w.heap.size w w' := by
  have q0 : ¬ (n : Int) > 300 := by omega
  have p0 : ¬ (300 : Int) < (n : Int) := by omega
  have q1 : ¬ (nx : Int) > 300 := by omega
  have p1 : ¬ (300 : Int) < (nx : Int) := by omega
  have q2 : ¬ (ny : Int) > 300 := by omega
  have p2 : ¬ (300 : Int) < (ny : Int) := by omega
  have q3 : ¬ (ng : Int) > 300 := by omega
  have p3 : ¬ (300 : Int) < (ng : Int) := by omega
  have q4 : ¬ (ne : Int) > 300 := by omega
  have p4 : ¬ (300 : Int) < (ne : Int) := by omega
  have q5 : ¬ (nr : Int) > 300 := by omega
  have p5 : ¬ (300 : Int) < (nr : Int) := by omega
  have hd := uniqU A hnx xc
  have HR : Hid _ := And.intro O (And.intro C (And.intro G (And.intro E (And.intro R rg))))
  clear O A C G E R rg
  go_enter Ybaf.func3, Ybaf.ntmps3
  go_wp2_with fail
  refine hd.mono ?_
  rintro e W1 ⟨v1, rfl, r1, hb1⟩
  obtain ⟨da, dc, rfl⟩ := r1.shape
  have hh := uniqU (HR.out.2.1.next hb1) hny yc
  have H1 : Hid _ := And.intro r1 hb1
  clear r1 hb1 hd
  go_wp2_with fail
  refine hh.mono ?_
  rintro e W2 ⟨v2, rfl, r2, hb2⟩
  obtain ⟨ha, hc, rfl⟩ := r2.shape
  have HE : Hid (Below w.heap.size w W2 ∧ L3 W2 (uq xs nx) (.slice da (uq xs nx).length dc) (uq ys ny) (.slice ha (uq ys ny).length hc) 0 (fun _ => 0) (.slice none 0 0) 0 (fun _ => 0) (.slice none 0 0) ra nr rc vals ∧ ObsR W2 oa n op oA oh ol ∧ U8R W2 ea ne es ∧ U8R W2 ga ng gs) := by
    have b := H1.out.2.trans (hb2.mono H1.out.2.size)
    obtain ⟨O, _, G, E, R, rg⟩ := HR.out
    exact ⟨b, ⟨H1.out.1.below hb2, r2, .inl ⟨rfl, rfl⟩, .inl ⟨rfl, rfl⟩, R.below b, rg, ⟨⟨uq_nodup _ _, uq_range _ _⟩, uq_nodup _ _, uq_range _ _⟩, Nat.le_trans (uq_len _ _) hnx, Nat.le_trans (uq_len _ _) hny, by omega, by omega, hnr⟩, O.next b, E.next b, G.next b⟩
  clear r2 hb2 hh
  go_upto_region 5 with fail
  refine P5 w _ _ _ _ _ _ _ _ _ _ _ _ _ _ _ _ _ _ _ _ _ _ _ _ _ _ _ _ _ _ _ _ _ _ _ _ _ _ _ _ _ _ _ _ _ _ _ _ _ _ _ _ _ _ _ _ _ _ _ _ _ _ _ _ _ _ _ _ _ _ _ _ _ _ _ _ _ _ _ _ _ _ _ _ _ _ _ _ _ _ _ _ _ _ _ _ _ _ _ _ _ _ _ _ _ _ _ _ _ _ _ _ _ _ _ _ _ _ _ _ _ _ _ _ _ _ _ _ _ _ _ _ _ _ _ _ _ _ _ _ _ _ _ _ _ _ _ _ _ _ _ _ _ _ _ _ _ _ _ _ _ _ _ _ _ _ _ _ _ _ _ _ _ _ _ _ _ _ _ _ _ _ _ _ _ _ _ _ _ _ _ _ _ _ _ _ _ _ _ _ _ _ _ _ _ _ _ _ _ _ _ _ _ _ _ _ _ _ _ _ _ _ _ _ _ _ _ _ _ _ _ _ _ _ _ _ _ _ _ _ _ _ _ _ _ _ _ _ _ _ _ _ _ _ _ _ _ _ _ _ _ _ _ _ _ _ _ _ _ _ _ _ _ _ _ _ _ _ _ _ _ _ _ _ _ _ _ _ _ _ _ _ _ _ _ _ _ _ _ _ _ _ _ _ _ _ _ _ _ _ _ _ _ _ _ _ _ _ _ _ _ _ _ _ _ _ _ _ _ _ _ _ _ _ _ _ _ _ _ _ _ _ _ _ _ _ _ _ _ _ _ _ _ _ _ _ _ _ _ _ _ _ _ _ _ _ _ _ _ _ _ _ _ _ _ _ _ _ _ _ _ _ _ _ _ _ _ _ _ _ _ _ _ _ _ _ _ _ _ _ _ _ _ _ _ _ _ _ _ _ _ _ _ _ _ _ _ _ _ _ _ _ _ _ _ _ _ _ _ _ _ _ _ _ _ _ _ _ _ _ _ _ _ _ _ _ _ _ _ _ _ _ _ _ _ _ _ _ _ _ _ _ _ _ _ _ _ _ _ _ _ _ _ _ _ _ _ _ _ _ _ _ _ _ _ _ _ _ _ _ _ _ _ _ _ mn rI (uq xs nx) da dc (uq ys ny) ha hc ra nr rc vals oa n oc op oA ol oh ea ne ec es ga ng gc gs _ ?_ HE.out.1 HE.out.2.1 HE.out.2.2.1 HE.out.2.2.2.1 HE.out.2.2.2.2 hn hne hng hrI
  assumption
end Go.Proofs.YbulkcuegFmt
