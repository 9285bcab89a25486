import Derived.Test.YbulkcuegFmtLaw3
namespace Go.Proofs.YbulkcuegFmt
open Go.RowKit Go.Maps

theorem selL_le (Q : List (Fin 50)) (p : Fin 5) (md : Int) : (selL Q p md).length ≤ Q.length := by
  unfold selL
  split
  · exact List.length_filter_le _ _
  · have := selL_len Q p
    unfold selL at this
    rw [if_neg (by decide)] at this
    omega
/-- selection's outcome, in the law's words -/
theorem sel_said {W : World} {hi : Fin 50 → Bool} {ks : List (Fin 50)} {dl hl : List Int} {nb : Fin 5 → Option Nat} {lo : Fin 50 → Int} {D : Nat → Int} {rpd : Fin 5} {ql : Nat → Fin 5} {n15 : Nat} {mn : Bool} {vc : Value} {rule : Int} {md : Int}
    (hk : ks.Nodup) (hmd : md = if mn then 1 else 0) (O : OrdOk hi (ks.filter (elig dl nb)) dl hl lo D) (P : SelP W (Qof (ks.filter (elig dl nb)) D) (fun q => ruleOf (clsOf hi q)) rpd ql n15 md (∃ q, q ∈ ks ∧ aside dl nb q) vc rule) :
    ∃ L rr ca cb cc, vc = .slice ca L.length cc ∧ (0 < L.length → ca = some ⟨cb, 0, none⟩) ∧ (∀ i, i < L.length → ∀ c, c < 6 → W.cell? ⟨cb, i * 6 + c, none⟩ = (rkd (rr (L.getD i 0)) (L.getD i 0))[c]?) ∧ L.length ≤ 50 ∧
      SelQ ks (Qof (ks.filter (elig dl nb)) D) L rr (fun q => ruleOf (clsOf hi q)) rpd ql n15 mn (elig dl nb) (clsOf hi) (witOf dl hl) lo ∧
      ((mn = true → rule = 15) ∧ (mn = false → (∃ q, q ∈ ks ∧ aside dl nb q) → rule = 14) ∧ (mn = false → ¬ (∃ q, q ∈ ks ∧ aside dl nb q) → rule = 13)) := by
  have hE : (ks.filter (elig dl nb)).Nodup := hk.filter _
  have hperm := Q_perm O
  have hQ50 : (Qof (ks.filter (elig dl nb)) D).length ≤ 50 := by rw [Qof_len]; exact nodup50 _ hE
  have hs : ∀ q ∈ ks.filter (elig dl nb), sup dl q = true := fun q hq => by
    have h := (List.mem_filter.1 hq).2
    unfold elig at h
    simp only [Bool.and_eq_true] at h
    exact h.1.2
  have hpair := Q_pair O hE hs
  have hnd : (Qof (ks.filter (elig dl nb)) D).Nodup := hperm.nodup_iff.2 hE
  have hru : (mn = true → rule = 15) ∧ (mn = false → (∃ q, q ∈ ks ∧ aside dl nb q) → rule = 14) ∧ (mn = false → ¬ (∃ q, q ∈ ks ∧ aside dl nb q) → rule = 13) := by
    rcases P.2 with ⟨h1, h2⟩ | ⟨h1, h2⟩
    · have : mn = true := by
        cases mn
        · rw [hmd] at h1; simp at h1
        · rfl
      subst this
      exact ⟨fun _ => h2, fun h => (by cases h), fun h => (by cases h)⟩
    · have : mn = false := by
        cases mn
        · rfl
        · rw [hmd] at h1; simp at h1
      subst this
      rcases h2 with ⟨a, b⟩ | ⟨a, b⟩
      · exact ⟨fun h => (by cases h), fun _ _ => b, fun _ h => absurd a h⟩
      · exact ⟨fun h => (by cases h), fun _ h => absurd h a, fun _ _ => b⟩
  rcases P.1 with ⟨i, h1, h2, h3, va, cap, b, e, g1, _, _, g2⟩ | ⟨h1, va, cap, b, e, g1, _, _, g2⟩
  · refine ⟨_, _, va, b, cap, e, g1, g2, Nat.le_trans (selL_le _ _ _) hQ50, ⟨hperm, hnd, fun _ _ => rfl, hpair, .inl ⟨i, h1, h2, h3, by rw [hmd], rfl⟩⟩, hru⟩
  · refine ⟨_, _, va, b, cap, e, g1, g2, ?_, ⟨hperm, hnd, fun _ _ => rfl, hpair, .inr ⟨h1, ?_, rfl⟩⟩, hru⟩
    · split
      · exact Nat.zero_le _
      · exact hQ50
    · rw [hmd]
      cases mn
      · rfl
      · rfl
/-- the device, its coverage set -/
theorem Dev.cover {W : World} {dv sb : Nat} {md : Int} {rp : ByteArray} {n15 : Nat} {el : Nat → Fin 5} {dl hl : List Int} {n6 : Nat} {fl : Nat → Fin 5} {cov ix : Value} (h : Dev W dv sb md rp n15 el dl hl n6 fl cov ix) (c : Value) :
    Dev (W.setCell ⟨dv, 20, none⟩ c) dv sb md rp n15 el dl hl n6 fl c ix ∧ W.cell? ⟨dv, 20, none⟩ = some cov ∧ W.frozen? ⟨dv, 20, none⟩ = false := by
  obtain ⟨im, mnc, v2, v3, v6, v7, a15, k15, rb, mb, hb', hcap, nb, nn, top, hd, rk, hnb, r15, h15, htop⟩ := h
  have ne : ∀ b, b ≠ dv → (W.setCell ⟨dv, 20, none⟩ c).heap[b]? = W.heap[b]? := fun b hb => Below.heap_setCell _ _ _ _ hb
  refine ⟨⟨im, mnc, v2, v3, v6, v7, a15, k15, rb, mb, hb', hcap, nb, nn, top, heap_set c hd, rk.keep (fun b h1 _ => ne b (by omega)), hnb, ?_, h15, by simpa [World.setCell] using htop⟩, cell_of hd rfl, fz_of hd⟩
  rcases r15 with h | ⟨b, cap, h1, h2, h3, h4⟩
  · exact .inl h
  · injection h1 with h1 h1b h1c
    refine .inr ⟨b, cap, by rw [h1, h1c], h2, by simpa [World.setCell] using h3, fun i hi => ?_⟩
    have hlt := (h15 b 0 h1).1
    exact (World.cell?_of_block (w := W) (a := ⟨b, i, none⟩) (ne b (by omega))).trans (h4 i hi)

/-- what the law has when the device is made -/
structure L2 (W : World) (dl : List Int) (dv : Value) (hl : List Int) (hv : Value) (n6 : Nat) (fl : Nat → Fin 5) (fv : Value) (n15 : Nat) (ql : Nat → Fin 5) (qv : Value) (ob pf : Nat) (md : Int) (rpd : Fin 5) (ra : Option Addr) (nr rc : Nat) (vals : Nat → Int) : Prop where
  d : RowV W dv dl.length (fun i => .int .u16 (dl.getD i 0))
  h : RowV W hv hl.length (fun i => .int .u16 (hl.getD i 0))
  f : RowV W fv n6 (fun i => .string (dig (fl i).val))
  q : RowV W qv n15 (fun i => .string (dig (ql i).val))
  o : W.cell? ⟨ob, 0, none⟩ = some (.string (dig 1))
  p : ∃ im mnc v7, W.heap[pf]? = some (.cells (profC im mnc dv hv fv v7 md (dig rpd.val) qv) 38 (0, 0)) ∧ RowV W v7 1 (fun _ => .string (dig 1))
  r : RowV W (.slice ra nr rc) nr (fun i => .int .u64 (vals i))
  rg : ∀ i, i < nr → 0 ≤ vals i ∧ vals i ≤ 18446744073709551615
  nd : (dl.Nodup ∧ ∀ x ∈ dl, 0 ≤ x ∧ x < 9) ∧ (hl.Nodup ∧ ∀ x ∈ hl, 0 ≤ x ∧ x < 9)
  le : dl.length ≤ 300 ∧ hl.length ≤ 300 ∧ n6 ≤ 300 ∧ n15 ≤ 300 ∧ nr ≤ 300
section
variable {W W' : World} {dl : List Int} {dv : Value} {hl : List Int} {hv : Value} {n6 : Nat} {fl : Nat → Fin 5} {fv : Value} {n15 : Nat} {ql : Nat → Fin 5} {qv : Value} {ob pf : Nat} {md : Int} {rpd : Fin 5} {ra : Option Addr} {nr rc : Nat} {vals : Nat → Int}
theorem L2.next (h : L2 W dl dv hl hv n6 fl fv n15 ql qv ob pf md rpd ra nr rc vals) (g : Below W.heap.size W W') : L2 W' dl dv hl hv n6 fl fv n15 ql qv ob pf md rpd ra nr rc vals := by
  obtain ⟨im, mnc, v7, p1, p2⟩ := h.p
  exact ⟨h.d.below g, h.h.below g, h.f.below g, h.q.below g, keepc g h.o, ⟨im, mnc, v7, (g.block _ (lt_of_heap p1)).trans p1, p2.below g⟩, h.r.below g, h.rg, h.nd, h.le⟩
/-- the source that is made -/
theorem L2.src (h : L2 W dl dv hl hv n6 fl fv n15 ql qv ob pf md rpd ra nr rc vals) : Src (W.alloc (.cells #[.slice ra nr rc, .int .i64 0] 51)) W.heap.size ra nr rc vals 0 ∧ ∀ b o, ra = some ⟨b, o, none⟩ → b < W.heap.size := by
  refine ⟨⟨(MapKept.heap_alloc W _).1, fun i hi => ?_, h.rg⟩, fun b o e => ?_⟩
  · rcases h.r with ⟨_, h0⟩ | ⟨b, o, cap, h1, h2, h3⟩
    · omega
    · injection h1 with h1 _ _
      exact ⟨b, o, h1, by omega, cell_alloc (h3 i hi)⟩
  · rcases h.r with ⟨h1, _⟩ | ⟨b', o', cap, h1, h2, h3⟩
    · injection h1 with h1 _ _
      rw [e] at h1
      cases h1
    · injection h1 with h1 _ _
      rw [e] at h1
      injection h1 with h1
      injection h1 with h1 _ _
      omega
/-- the device that is made -/
theorem L2.dev (h : L2 W dl dv hl hv n6 fl fv n15 ql qv ob pf md rpd ra nr rc vals) {sb : Nat} (hsb : sb < W.heap.size) :
    Calls Ybaf.prog 6 #[.pointer (some ⟨pf, 0, none⟩), .iface 49 (.pointer (some ⟨sb, 0, none⟩))] W fun e W' => ∃ db, e = .returned (.pointer (some ⟨db, 0, none⟩)) ∧ Below W.heap.size W W' ∧ W.heap.size ≤ db ∧ db < W'.heap.size ∧ Dev W' db sb md (dig rpd.val) n15 ql dl hl n6 fl (.slice none 0 0) (.pointer none) := by
  obtain ⟨im, mnc, v7, p1, p2⟩ := h.p
  exact newDev_any pf sb im mnc dv hv fv v7 md (dig rpd.val) qv W p1 dl hl n6 n15 fl ql h.d h.h h.f p2 h.q h.le.1 h.le.2.1 h.le.2.2.1 h.le.2.2.2.1 h.nd.1 h.nd.2 hsb
end
end Go.Proofs.YbulkcuegFmt
