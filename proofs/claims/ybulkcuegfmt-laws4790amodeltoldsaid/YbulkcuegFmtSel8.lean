import Derived.Test.YbulkcuegFmtSelect0
namespace Go.Proofs.YbulkcuegFmt
open Go.RowKit Go.Maps

theorem fz_drew (w : World) (a : Addr) : w.drew.frozen? a = w.frozen? a := rfl
/-- what the last append is handed -/
def AppIn (W : World) (base : Nat) (v1 v2 : Value) (L : List (Fin 50)) (rl : Fin 50 → Int) : Prop :=
  ∃ n xs m news, W.ownsRow base 66 6 v1 n xs ∧ xs ++ news = rkF rl L ∧ n + m = L.length ∧ ((v2 = .slice none 0 0 ∧ m = 0 ∧ news = []) ∨ ∃ b c, v2 = .slice (some ⟨b, 0, none⟩) m c ∧ news.length = m * 6 ∧ (∀ j u, news[j]? = some u → W.cell? ⟨b, j, none⟩ = some u) ∧ ∀ u ∈ news, u.oneCell' = true)
theorem AppIn.keep {W W' : World} {base : Nat} {v1 v2 : Value} {L : List (Fin 50)} {rl : Fin 50 → Int} (h : AppIn W base v1 v2 L rl) {N : Nat} (hN : N < base) (k : ∀ b, b < W.heap.size → b ≠ N → W'.heap[b]? = W.heap[b]?) (hn : ∀ b c m, v2 = .slice (some ⟨b, 0, none⟩) m c → b ≠ N) : AppIn W' base v1 v2 L rl := by
  obtain ⟨n, xs, m, news, h1, h2, h3, h4⟩ := h
  refine ⟨n, xs, m, news, owns_keep h1 (fun b hb hl => k b hl (by omega)), h2, h3, ?_⟩
  rcases h4 with h4 | ⟨b, c, h5, h6, h7, h8⟩
  · exact .inl h4
  · exact .inr ⟨b, c, h5, h6, fun j u hu => (World.cell?_of_block (w := W) (a := ⟨b, j, none⟩) (k b (lt_of_cell (h7 j u hu)) (hn b c m h5))).trans (h7 j u hu), h8⟩
section
variable {P : Program} {w : World} {Q : Exit → Go.Act → World → Prop} {K : Go.Act → World → Prop} {a : Go.Act} {o : Oper}
theorem wp_append_none (s x : Operand) (t : TypeId) (ho : o.op = .call { callee := .builtin .append, args := #[s, x], argTypes := #[t, t] }) (base : Nat) (e : TypeId) (i : TypeInfo) (size : Nat) (ht : P.underlying t = some (.slice e)) (hi : P.info? e = some i)
    (v : Value) (n : Nat) (xs : List Value) (hs : a.eval s = v) (hown : w.ownsRow base e size v n xs) (hx : a.eval x = .slice none 0 0) (h : K (a.put o.dst v) w) : o.wp P a w K Q := by
  have hrun := run_append_owned_none (P := P) (w := w) base t o.type e i size ht hi v n xs hown
  unfold Oper.wp
  simp [execOp, ho, resolve, invoke, builtin, hs, hx, hrun, Result.andThen]
  exact h
end
theorem ownSl {W : World} {base : Nat} {v : Value} {L : List (Fin 50)} {rl : Fin 50 → Int} {n : Nat} {xs : List Value} (h : W.ownsRow base 66 6 v n xs) (hn : n = L.length) (hx : xs = rkF rl L) : RkSl W v L rl := by
  subst hn
  subst hx
  exact RkOwn.sl h

set_option maxRecDepth 1000000 in
set_option maxHeartbeats 2000000 in
theorem KS8 (dv sb N0 : Nat) (rpd : Fin 5) (n15 : Nat) (el : Nat → Fin 5) (dl hl : List Int) (hi : Fin 50 → Bool) (lo : Fin 50 → Int) (E : List (Fin 50)) (SS : Prop) (w : World)
    (s0 s1 s2 s4 s7 s8 s9 s10 s11 s12 s13 s14 s15 s16 s17 s18 s19 s20 s21 s22 s23 s24 s25 s26 s27 s28 s29 s30 s31 s32 : Value)
    (K : Act → World → Prop) (D' : Nat → Int) (fa : Option Addr) (fl' fc : Nat) (ga : Option Addr) (gl gc : Nat) (rule : Int) (base : Nat) (L : List (Fin 50)) (rl' : Fin 50 → Int) (W : World)
    (hK : ∀ a w', Code.wp Ybaf.prog (spine 7 (Ybaf.f7.body.getD .skip)) (bodyPost Ybaf.prog Ybaf.f7 fun e w' => ∃ vc rule, e = .returned (.tuple #[vc, .agg #[.int .u8 rule, .int .u8 0, .int .i64 0]]) ∧ Gr2 w w' dv sb ∧ ∃ D', OrdOk hi E dl hl lo D' ∧ SelP w' (Qof E D') (fun q => ruleOf (clsOf hi q)) rpd el n15 0 SS vc rule) a w' → K a w')
    (hN : w.heap.size ≤ N0) (hz : W.heap[N0]? = some (.cells #[.int .u8 rule, .int .u8 0, .int .i64 0] 64 (0, 0))) (G : Gr2 w W dv sb) (A : AppIn W base (.slice fa fl' fc) (.slice ga gl gc) L rl') (hb1 : N0 < base) (hb2 : base ≤ W.heap.size) (hO : OrdOk hi E dl hl lo D') (hS : Hid (∀ w' vc, RkSl w' vc L rl' → SelP w' (Qof E D') (fun q => ruleOf (clsOf hi q)) rpd el n15 0 SS vc rule)) (hL : L.length ≤ 50) :
    Code.wp Ybaf.prog (headAt 6 (Ybaf.f7.body.getD .skip)) (Exit.then K (bodyPost Ybaf.prog Ybaf.f7 fun e w' => ∃ vc rule, e = .returned (.tuple #[vc, .agg #[.int .u8 rule, .int .u8 0, .int .i64 0]]) ∧ Gr2 w w' dv sb ∧ ∃ D', OrdOk hi E dl hl lo D' ∧ SelP w' (Qof E D') (fun q => ruleOf (clsOf hi q)) rpd el n15 0 SS vc rule)) ⟨List.toArray (s0 :: s1 :: s2 :: .pointer (some ⟨N0, 0, none⟩) :: s4 :: .slice fa fl' fc :: .slice ga gl gc :: s7 :: s8 :: s9 :: s10 :: s11 :: s12 :: s13 :: s14 :: s15 :: s16 :: s17 :: s18 :: s19 :: s20 :: s21 :: s22 :: s23 :: s24 :: s25 :: s26 :: s27 :: s28 :: s29 :: s30 :: s31 :: s32 :: []), []⟩ W := by
  conv => arg 2; whnf
  conv at hK => enter [a, w', 1, 2]; whnf
  obtain ⟨i66, hi66, z0, z1, z2⟩ := info_parts info66
  obtain ⟨nn, xs, m, news, hown, hxn, hnm, hv2⟩ := A
  have n0 : W.cell? ⟨N0, 0, none⟩ = some (.int .u8 rule) := cell_of hz rfl
  have n1 : W.cell? ⟨N0, 1, none⟩ = some (.int .u8 0) := cell_of hz rfl
  have n2 : W.cell? ⟨N0, 2, none⟩ = some (.int .i64 0) := cell_of hz rfl
  have f0 : W.frozen? ⟨N0, 0, none⟩ = false := fz_of hz
  have f1 : W.frozen? ⟨N0, 1, none⟩ = false := fz_of hz
  have f2 : W.frozen? ⟨N0, 2, none⟩ = false := fz_of hz
  have HO : Hid _ := hO
  have HZ : Hid _ := And.intro hz (And.intro G hown)
  clear hO
  have hown' : W.drew.ownsRow base 66 6 (.slice fa fl' fc) nn xs := hown
  have hNl := lt_of_heap hz
  clear hz G hown
  rcases hv2 with ⟨hv2, hm0, hnw⟩ | ⟨b, c, hv2, hnl, hnc, hone⟩
  · injection hv2 with h1 h2 h3
    subst h1 h2 h3 hm0 hnw
    rw [List.append_nil] at hxn
    obtain ⟨hz7, GW', ho7⟩ := HZ.out
    have GW : Hid _ := GW'
    have hxx : xs = rkF rl' L := hxn
    clear GW'
    have HF : Hid (Gr2 w (((W.setCell ⟨N0, 0, none⟩ (.int .u8 rule)).setCell ⟨N0, 1, none⟩ (.int .u8 0)).setCell ⟨N0, 2, none⟩ (.int .i64 0)) dv sb ∧ SelP (((W.setCell ⟨N0, 0, none⟩ (.int .u8 rule)).setCell ⟨N0, 1, none⟩ (.int .u8 0)).setCell ⟨N0, 2, none⟩ (.int .i64 0)) (Qof E D') (fun q => ruleOf (clsOf hi q)) rpd el n15 0 SS (.slice fa fl' fc) rule) := by
      refine ⟨GW.out.new (c := N0) (gr1 _ (gr1 _ (gr1 _ (World.grownBy.refl _ _)))) hN, hS.out _ _ (ownSl (owns_keep ho7 (fun b hb _ => (Below.heap_setCell _ _ _ _ (by show b ≠ N0; omega)).trans ((Below.heap_setCell _ _ _ _ (by show b ≠ N0; omega)).trans (Below.heap_setCell _ _ _ _ (by show b ≠ N0; omega))))) (by omega) hxx)⟩
    have hz9 := heap_set (k := 2) (.int .i64 0) (heap_set (k := 1) (.int .u8 0) (heap_set (k := 0) (.int .u8 rule) hz7))
    have u0 : (((W.setCell ⟨N0, 0, none⟩ (.int .u8 rule)).setCell ⟨N0, 1, none⟩ (.int .u8 0)).setCell ⟨N0, 2, none⟩ (.int .i64 0)).cell? ⟨N0, 0, none⟩ = some (.int .u8 rule) := cell_of hz9 rfl
    have u1 : (((W.setCell ⟨N0, 0, none⟩ (.int .u8 rule)).setCell ⟨N0, 1, none⟩ (.int .u8 0)).setCell ⟨N0, 2, none⟩ (.int .i64 0)).cell? ⟨N0, 1, none⟩ = some (.int .u8 0) := cell_of hz9 rfl
    have u2 : (((W.setCell ⟨N0, 0, none⟩ (.int .u8 rule)).setCell ⟨N0, 1, none⟩ (.int .u8 0)).setCell ⟨N0, 2, none⟩ (.int .i64 0)).cell? ⟨N0, 2, none⟩ = some (.int .i64 0) := cell_of hz9 rfl
    clear hz9 hz7
    clear ho7 GW HZ hxx
    go_region_held3 (fun w' => w'.cell? ⟨N0, 0, none⟩ = some (.int .u8 rule) ∧ w'.cell? ⟨N0, 1, none⟩ = some (.int .u8 0) ∧ w'.cell? ⟨N0, 2, none⟩ = some (.int .i64 0) ∧ w'.frozen? ⟨N0, 0, none⟩ = false ∧ w'.frozen? ⟨N0, 1, none⟩ = false ∧ w'.frozen? ⟨N0, 2, none⟩ = false)
      ((repeat' apply And.intro) <;> (first | assumption | exact cell_drew (by assumption) | (rw [fz_drew, World.frozen?_setCell, World.frozen?_setCell, World.frozen?_setCell]; assumption) | (rw [World.frozen?_setCell, World.frozen?_setCell, World.frozen?_setCell]; assumption)))
      (first | (refine wp_append_none (.tmp 29) (.tmp 30) 69 rfl base 66 i66 6 Ybaf.underlying69 hi66 _ nn xs rfl hown' rfl ?_))
    have HF : Hid (Gr2 w (((W.setCell ⟨N0, 0, none⟩ (.int .u8 rule)).setCell ⟨N0, 1, none⟩ (.int .u8 0)).setCell ⟨N0, 2, none⟩ (.int .i64 0)).drew dv sb ∧ SelP (((W.setCell ⟨N0, 0, none⟩ (.int .u8 rule)).setCell ⟨N0, 1, none⟩ (.int .u8 0)).setCell ⟨N0, 2, none⟩ (.int .i64 0)).drew (Qof E D') (fun q => ruleOf (clsOf hi q)) rpd el n15 0 SS (.slice fa fl' fc) rule) := ⟨HF.out.1.below (Below.drew (Below.refl _ _)), HF.out.2⟩
    have u0 : (((W.setCell ⟨N0, 0, none⟩ (.int .u8 rule)).setCell ⟨N0, 1, none⟩ (.int .u8 0)).setCell ⟨N0, 2, none⟩ (.int .i64 0)).drew.cell? ⟨N0, 0, none⟩ = some (.int .u8 rule) := u0
    have u1 : (((W.setCell ⟨N0, 0, none⟩ (.int .u8 rule)).setCell ⟨N0, 1, none⟩ (.int .u8 0)).setCell ⟨N0, 2, none⟩ (.int .i64 0)).drew.cell? ⟨N0, 1, none⟩ = some (.int .u8 0) := u1
    have u2 : (((W.setCell ⟨N0, 0, none⟩ (.int .u8 rule)).setCell ⟨N0, 1, none⟩ (.int .u8 0)).setCell ⟨N0, 2, none⟩ (.int .i64 0)).drew.cell? ⟨N0, 2, none⟩ = some (.int .i64 0) := u2
    generalize (((W.setCell ⟨N0, 0, none⟩ (.int .u8 rule)).setCell ⟨N0, 1, none⟩ (.int .u8 0)).setCell ⟨N0, 2, none⟩ (.int .i64 0)).drew = W9 at u0 u1 u2 HF ⊢
    go_wp2_with fail
    exact bodyPost_ret (v := .tuple #[.slice fa fl' fc, .agg #[.int .u8 rule, .int .u8 0, .int .i64 0]]) (by simp [results, Ybaf.results7, go_sem, u0, u1, u2]) rfl ⟨_, _, rfl, HF.out.1, D', HO.out, HF.out.2⟩
  · injection hv2 with h1 h2 h3
    subst h1 h2 h3
    have hnews' : ∀ j u, news[j]? = some u → W.drew.cell? ((⟨b, 0, none⟩ : Addr).add j) = some u := fun j u hu => by
      rw [add0, Nat.zero_add]
      exact hnc j u hu
    go_region_held3 (fun w' => w'.cell? ⟨N0, 0, none⟩ = some (.int .u8 rule) ∧ w'.cell? ⟨N0, 1, none⟩ = some (.int .u8 0) ∧ w'.cell? ⟨N0, 2, none⟩ = some (.int .i64 0) ∧ w'.frozen? ⟨N0, 0, none⟩ = false ∧ w'.frozen? ⟨N0, 1, none⟩ = false ∧ w'.frozen? ⟨N0, 2, none⟩ = false)
      ((repeat' apply And.intro) <;> (first | assumption | exact cell_drew (by assumption) | (rw [fz_drew, World.frozen?_setCell, World.frozen?_setCell, World.frozen?_setCell]; assumption) | (rw [World.frozen?_setCell, World.frozen?_setCell, World.frozen?_setCell]; assumption)))
      (first | (refine wp_append_own _ (.tmp 29) (.tmp 30) 69 rfl base 66 i66 _ 6 48 Ybaf.underlying69 hi66 z0 z1 z2 rfl (by omega) _ nn xs rfl hown' ⟨b, 0, none⟩ gl gc news rfl hnl hnews' hone (by unfold maxLen; omega) (by omega) hb2 ?_; intro v' w7 hown7 hgr7 _
                have hz7 := (own_below hown' hgr7 N0 hNl hb1).trans HZ.out.1
                have q0 : w7.cell? ⟨N0, 0, none⟩ = some (.int .u8 rule) := cell_of hz7 rfl
                have q1 : w7.cell? ⟨N0, 1, none⟩ = some (.int .u8 0) := cell_of hz7 rfl
                have q2 : w7.cell? ⟨N0, 2, none⟩ = some (.int .i64 0) := cell_of hz7 rfl
                have q3 : w7.frozen? ⟨N0, 0, none⟩ = false := fz_of hz7
                have q4 : w7.frozen? ⟨N0, 1, none⟩ = false := fz_of hz7
                have q5 : w7.frozen? ⟨N0, 2, none⟩ = false := fz_of hz7
                have hz9 := heap_set (k := 2) (.int .i64 0) (heap_set (k := 1) (.int .u8 0) (heap_set (k := 0) (.int .u8 rule) hz7))
                have u0 : (((w7.setCell ⟨N0, 0, none⟩ (.int .u8 rule)).setCell ⟨N0, 1, none⟩ (.int .u8 0)).setCell ⟨N0, 2, none⟩ (.int .i64 0)).cell? ⟨N0, 0, none⟩ = some (.int .u8 rule) := cell_of hz9 rfl
                have u1 : (((w7.setCell ⟨N0, 0, none⟩ (.int .u8 rule)).setCell ⟨N0, 1, none⟩ (.int .u8 0)).setCell ⟨N0, 2, none⟩ (.int .i64 0)).cell? ⟨N0, 1, none⟩ = some (.int .u8 0) := cell_of hz9 rfl
                have u2 : (((w7.setCell ⟨N0, 0, none⟩ (.int .u8 rule)).setCell ⟨N0, 1, none⟩ (.int .u8 0)).setCell ⟨N0, 2, none⟩ (.int .i64 0)).cell? ⟨N0, 2, none⟩ = some (.int .i64 0) := cell_of hz9 rfl))
    have hgr7' : W.drew.grownBy w7 (Value.slice fa fl' fc).ownBlock := hgr7
    have GW : Hid (Gr2 w w7 dv sb) := by
      obtain ⟨_, G, _⟩ := HZ.out
      exact ⟨hgr7'.os.trans G.os, hgr7'.tape.trans G.tape, hgr7'.output.trans G.output, Nat.le_trans G.size hgr7'.size, fun k hk h1 h2 => (own_below hown' hgr7' k (by have := G.size; show k < W.heap.size; omega) (by omega)).trans (G.block k hk h1 h2)⟩
    have HF : Hid (Gr2 w (((w7.setCell ⟨N0, 0, none⟩ (.int .u8 rule)).setCell ⟨N0, 1, none⟩ (.int .u8 0)).setCell ⟨N0, 2, none⟩ (.int .i64 0)) dv sb ∧ SelP (((w7.setCell ⟨N0, 0, none⟩ (.int .u8 rule)).setCell ⟨N0, 1, none⟩ (.int .u8 0)).setCell ⟨N0, 2, none⟩ (.int .i64 0)) (Qof E D') (fun q => ruleOf (clsOf hi q)) rpd el n15 0 SS v' rule) :=
      ⟨GW.out.new (c := N0) (gr1 _ (gr1 _ (gr1 _ (World.grownBy.refl _ _)))) hN, hS.out _ _ (ownSl (owns_keep hown7 (fun b hb _ => (Below.heap_setCell _ _ _ _ (by show b ≠ N0; omega)).trans ((Below.heap_setCell _ _ _ _ (by show b ≠ N0; omega)).trans (Below.heap_setCell _ _ _ _ (by show b ≠ N0; omega))))) hnm hxn)⟩
    clear hz7 hz9 q0 q1 q2 q3 q4 q5 GW hgr7' hgr7 hown7
    generalize ((w7.setCell ⟨N0, 0, none⟩ (.int .u8 rule)).setCell ⟨N0, 1, none⟩ (.int .u8 0)).setCell ⟨N0, 2, none⟩ (.int .i64 0) = W9 at u0 u1 u2 HF ⊢
    go_wp2_with fail
    exact bodyPost_ret (v := .tuple #[v', .agg #[.int .u8 rule, .int .u8 0, .int .i64 0]]) (by simp [results, Ybaf.results7, go_sem, u0, u1, u2]) rfl ⟨_, _, rfl, HF.out.1, D', HO.out, HF.out.2⟩
end Go.Proofs.YbulkcuegFmt
