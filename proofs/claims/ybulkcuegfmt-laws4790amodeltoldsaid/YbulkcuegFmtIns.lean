import Derived.Test.YbulkcuegFmtRow
import Derived.Shelf.Abstract
import Derived.Deep.LoopGhost
namespace Go.Proofs.YbulkcuegFmt
open Go.RowKit

/-- the comparison that a sort is handed: by a key -/
def Cm (W0 : World) (bl g : Nat) (cb : Array Value) (κ : Int → Int) (ok : Int → Prop) : Prop :=
  ∀ W x y, W0.grownBy W (some bl) → ok x → ok y → Calls Ybaf.prog g (#[.int .i64 x, .int .i64 y] ++ cb) W fun e W' => ∃ c, e = .returned (.int .i64 c) ∧ (c < 0 ↔ κ x < κ y) ∧ Below W.heap.size W W'

theorem keepb {W W' : World} {b o : Nat} {v : Value} (hb : Below W.heap.size W W') (h : W.cell? ⟨b, o, none⟩ = some v) (hlt : b < W.heap.size) : W'.cell? ⟨b, o, none⟩ = some v := (hb.cell (p := ⟨b, o, none⟩) hlt).trans h

theorem Srt.ext {κ : Int → Int} {D D1 D2 : Nat → Int} {a c : Nat} (hac : a ≤ c) (h : Srt κ D D1 a c) (h' : Srt κ D1 D2 a (c + 1)) : Srt κ D D2 a (c + 1) := by
  refine ⟨h'.perm.trans ?_, fun x hx => (h'.out x hx).trans (h.out x (by omega)), h'.srt⟩
  rw [seg_split D1 hac (Nat.le_succ c), seg_split D hac (Nat.le_succ c), seg_congr (D := D1) (D' := D) (a := c) (b := c + 1) (fun x hx _ => h.out x (.inr hx))]
  exact List.Perm.append_right _ h.perm

set_option maxRecDepth 100000 in
set_option maxHeartbeats 1000000 in
theorem ins_none (bl o len cap a : Nat) (fv : Value) (W : World) (ha : a ≤ 10000) :
    Calls Ybaf.prog 58 #[.slice (some ⟨bl, o, none⟩) len cap, .int .i64 a, .int .i64 a, fv] W fun e W' => e = .returned (.tuple #[]) ∧ W = W' := by
  go_enter Ybaf.func58, Ybaf.ntmps58
  go_wp2_with fail
  refine wp_loop_rounds 1 ?_
  rw [rounds_succ]
  have h : ¬ (a : Int) + 1 < (a : Int) := by omega
  go_wp2_with fail
  go_end0
  exact ⟨rfl, rfl⟩

set_option maxRecDepth 100000 in
set_option maxHeartbeats 2000000 in
theorem ins_any (bl o len cap N a b g : Nat) (cb : Array Value) (κ : Int → Int) (ok : Int → Prop) (D : Nat → Int) (W0 W : World) (eg : ∀ args w, (callFunc g args).run Ybaf.prog w = .ok (.enter g args) w)
    (hc : Cm W0 bl g cb κ ok) (hW : W0.grownBy W (some bl)) (hN : o + len ≤ N) (hab : a < b) (hb : b ≤ len) (hlen : len ≤ 10000) (R : Rw W bl N D) (hok : ∀ x, o + a ≤ x → x < o + b → ok (D x)) :
    Calls Ybaf.prog 58 #[.slice (some ⟨bl, o, none⟩) len cap, .int .i64 a, .int .i64 b, .func (.func g) #[] cb] W fun e W' => e = .returned (.tuple #[]) ∧ W0.grownBy W' (some bl) ∧ ∃ D', Rw W' bl N D' ∧ Srt κ D D' (o + a) (o + b) := by
  have HC : Hid _ := hc
  have HO : Hid _ := hok
  clear hc hok
  go_enter Ybaf.func58, Ybaf.ntmps58
  go_wp2_with fail
  go_loopw [8] (fun vi wr => ∃ i : Nat, ∃ Dk, a < i ∧ i ≤ b ∧ vi = .int .i64 i ∧ W0.grownBy wr (some bl) ∧ Rw wr bl N Dk ∧ Hid (Srt κ D Dk (o + a) (o + i))) (fun vi _ => b - (intOf vi).toNat)
  case atStart => exact ⟨a + 1, D, by omega, hab, by go_num, hW, R, Srt.id (fun x y h1 h2 h3 => by rw [show x = y by omega]; exact Int.le_refl _)⟩
  case round =>
    obtain ⟨i, Dk, hai, hib, rfl, hg, Rk, hS⟩ := hrel
    clear R hW
    by_cases hin : i < b
    · have hin' : (i : Int) < (b : Int) := by omega
      have Hg : Hid _ := hg
      have HRk : Hid _ := Rk
      clear hg Rk
      go_wp2_with fail
      go_loopg [9] i (fun g2 vj wr => ∃ j : Nat, j ≤ g2 ∧ a ≤ j ∧ j ≤ i ∧ vj = .int .i64 j ∧ W0.grownBy wr (some bl) ∧ Rw wr bl N (rot Dk (o + j) (o + i) (o + i + 1)) ∧ Hid (∀ x, o + j ≤ x → x < o + i → κ (Dk (o + i)) < κ (Dk x)))
      case atStart => exact ⟨i, Nat.le_refl _, by omega, Nat.le_refl _, rfl, Hg.out, by rw [rot_none_r]; exact HRk.out, fun x h1 h2 => by omega⟩
      case round =>
        clear Hg HRk
        obtain ⟨j, hjg, haj, hji, rfl, hgj, Rj, hhi⟩ := hrel
        have OUT : Hid ((j ≤ a ∨ ¬ κ (Dk (o + i)) < κ (Dk (o + j - 1))) → Srt κ D (rot Dk (o + j) (o + i) (o + i + 1)) (o + a) (o + (i + 1))) := fun hs => by
          refine Srt.ext (a := o + a) (c := o + i) (by omega) hS.out ?_
          refine one_right (a := o + a) (m := o + i) (i := o + j) (by omega) (by omega) hS.out.srt (fun x h1 h2 => ?_) hhi.out
          rcases hs with hs | hs
          · omega
          · exact Int.le_trans (hS.out.srt x (o + j - 1) h1 (by omega) (by omega)) (Int.not_lt.1 hs)
        by_cases hja : a < j
        · obtain ⟨jp, rfl⟩ : ∃ jp, j = jp + 1 := ⟨j - 1, by omega⟩
          have hja' : (a : Int) < (jp : Int) + 1 := by omega
          have hj1 : (jp : Int) + 1 < (len : Int) := by omega
          have hj2 : (jp : Int) < (len : Int) := by omega
          have p0 : (0 : Int) ≤ (jp : Int) + 1 := by omega
          have p1 : (0 : Int) ≤ (jp : Int) := by omega
          have e0 : ((jp : Int) + 1).toNat = jp + 1 := by omega
          have hwp : IntKind.i64.wrap (jp : Int) = (jp : Int) := by rw [IntKind.wrap_i64]; omega
          have vj : rot Dk (o + (jp + 1)) (o + i) (o + i + 1) (o + (jp + 1)) = Dk (o + i) := by
            unfold rot
            rw [if_neg (by omega), if_pos (by omega)]
            congr 1; omega
          have vp : rot Dk (o + (jp + 1)) (o + i) (o + i + 1) (o + jp) = Dk (o + jp) := rot_out _ (by omega) (by omega) (.inl (by omega))
          have cj : wr.cell? ⟨bl, o + (jp + 1), none⟩ = some (.int .i64 (Dk (o + i))) := by rw [← vj]; exact Rj.get (by omega)
          have cp : wr.cell? ⟨bl, o + jp, none⟩ = some (.int .i64 (Dk (o + jp))) := by rw [← vp]; exact Rj.get (by omega)
          have okm : ∀ x, o + a ≤ x → x < o + b → ok (Dk x) := fun x h1 h2 => by
            by_cases h3 : x < o + i
            · obtain ⟨y, y1, y2, y3⟩ := hS.out.mem h1 h3
              rw [← y3]; exact HO.out y y1 (by omega)
            · rw [hS.out.out x (.inr (by omega))]; exact HO.out x h1 h2
          have hcl : ∀ W1, W0.grownBy W1 (some bl) → Calls Ybaf.prog g (#[.int .i64 (Dk (o + i)), .int .i64 (Dk (o + jp))] ++ cb) W1 fun e W' => ∃ c, e = .returned (.int .i64 c) ∧ (c < 0 ↔ κ (Dk (o + i)) < κ (Dk (o + jp))) ∧ Below W1.heap.size W1 W' := fun W1 h1 => HC.out W1 _ _ h1 (okm _ (by omega) (by omega)) (okm _ (by omega) (by omega))
          have hbl := Rj.lt
          have hgt : decide ((a : Int) < (jp : Int) + 1) = true := by simp; omega
          by_cases hlt : κ (Dk (o + i)) < κ (Dk (o + jp))
          · have hcl' : ∀ W1, W0.grownBy W1 (some bl) → Calls Ybaf.prog g (#[.int .i64 (Dk (o + i)), .int .i64 (Dk (o + jp))] ++ cb) W1 fun e W' => ∃ c, e = .returned (.int .i64 c) ∧ decide (c < 0) = true ∧ Below W1.heap.size W1 W' := fun W1 h1 => (hcl W1 h1).mono (fun e W' ⟨c, h1, h2, h3⟩ => ⟨c, h1, by simp [h2, hlt], h3⟩)
            have hgj' : W0.grownBy wr.drew (some bl) := grow_below hgj (Below.drew (Below.refl _ _))
            have HRj : Hid (Rw wr bl N (rot Dk (o + (jp + 1)) (o + i) (o + i + 1))) := Rj
            have hnext : Hid (∀ x, o + jp ≤ x → x < o + i → κ (Dk (o + i)) < κ (Dk x)) := fun x h1 h2 => by
              by_cases e : x = o + jp
              · rw [e]; exact hlt
              · exact hhi.out x (by omega) h2
            have hsw : Hid (∀ W', Rw W' bl N (rot Dk (o + (jp + 1)) (o + i) (o + i + 1)) → Rw ((W'.setCell ⟨bl, o + (jp + 1), none⟩ (.int .i64 (Dk (o + jp)))).setCell ⟨bl, o + jp, none⟩ (.int .i64 (Dk (o + i)))) bl N (rot Dk (o + jp) (o + i) (o + i + 1))) := fun W' R' => by
              have := R'.swap (i := o + (jp + 1)) (j := o + jp) (by omega) (by omega)
              rw [vj, vp] at this
              rw [rot_one_right Dk (show o + jp < o + i by omega)]
              exact this
            clear hcl Rj okm vj vp hlt
            go_wp2_with fail
            go_region_held3 (fun w' => w'.cell? ⟨bl, o + (jp + 1), none⟩ = some (.int .i64 (Dk (o + i))) ∧ w'.cell? ⟨bl, o + jp, none⟩ = some (.int .i64 (Dk (o + jp))))
              ((repeat' apply And.intro) <;> (first | assumption | exact cell_drew (by assumption) | exact keepb hb3 (cell_drew (by assumption)) hbl))
              (first | (go_at_fn g; refine (hcl' _ hgj').mono ?_; rintro e w3 ⟨c, rfl, hc0, hb3⟩))
            rename_i hHeld
            have R3 := HRj.out.below ((Below.drew (Below.refl _ wr)).trans hb3)
            have HG3 : Hid _ := grow_below hgj' hb3
            have HR3 : Hid (Rw w3 bl N (rot Dk (o + (jp + 1)) (o + i) (o + i + 1))) := R3
            obtain ⟨y1, y2⟩ := hHeld
            have z1 := R3.fz (o + (jp + 1))
            have z2 := R3.fz (o + jp)
            clear cj cp hcl' hb3 HRj hbl hgj hgj' R3
            obtain ⟨j1, hj1⟩ : ∃ j1, j1 = jp + 1 := ⟨_, rfl⟩
            rw [← hj1] at y1 z1 e0
            have J1 : Hid (j1 = jp + 1) := hj1
            clear hj1
            go_wp2_with fail
            go_region
            go_wp2_with fail
            go_roundg jp
            case measure => omega
            case rel =>
              refine ⟨jp, Nat.le_refl _, by omega, by omega, by first | rfl | go_num | (congr 1; omega), grow_below (Rw.swap_below _ _ HG3.out) (Below.drew (Below.refl _ _)), ?_, hnext⟩
              rw [J1.out]
              exact Rw.of_block (hsw.out _ HR3.out) rfl
          · have hcl' : ∀ W1, W0.grownBy W1 (some bl) → Calls Ybaf.prog g (#[.int .i64 (Dk (o + i)), .int .i64 (Dk (o + jp))] ++ cb) W1 fun e W' => ∃ c, e = .returned (.int .i64 c) ∧ decide (c < 0) = false ∧ Below W1.heap.size W1 W' := fun W1 h1 => (hcl W1 h1).mono (fun e W' ⟨c, h1, h2, h3⟩ => ⟨c, h1, by simp [h2, hlt], h3⟩)
            have hgj' : W0.grownBy wr.drew (some bl) := grow_below hgj (Below.drew (Below.refl _ _))
            have HRj : Hid (Rw wr bl N (rot Dk (o + (jp + 1)) (o + i) (o + i + 1))) := Rj
            have hfin : Hid _ := OUT.out (.inr (by rw [show o + (jp + 1) - 1 = o + jp by omega]; exact hlt))
            clear hcl Rj okm vj vp hlt
            go_wp2_with fail
            go_region_held3 (fun w' => w'.cell? ⟨bl, o + (jp + 1), none⟩ = some (.int .i64 (Dk (o + i))) ∧ w'.cell? ⟨bl, o + jp, none⟩ = some (.int .i64 (Dk (o + jp))))
              ((repeat' apply And.intro) <;> (first | assumption | exact cell_drew (by assumption) | exact keepb hb3 (cell_drew (by assumption)) hbl))
              (first | (go_at_fn g; refine (hcl' _ hgj').mono ?_; rintro e w3 ⟨c, rfl, hc0, hb3⟩))
            rename_i hHeld
            have HG3 : Hid _ := grow_below hgj' hb3
            have HR3 : Hid (Rw w3 bl N (rot Dk (o + (jp + 1)) (o + i) (o + i + 1))) := HRj.out.below ((Below.drew (Below.refl _ wr)).trans hb3)
            clear cj cp hcl' hb3 HRj hbl hgj hgj' hHeld
            go_wp2_with fail
            go_roundw
            case rel => exact ⟨i + 1, _, by omega, by omega, by go_num, HG3.out, HR3.out, hfin⟩
            case measure => simp [intOf]; omega
        · have hgt : decide ((a : Int) < (j : Int)) = false := by simp; omega
          have hfin : Hid _ := OUT.out (.inl (by omega))
          have HG3 : Hid _ := hgj
          have HR3 : Hid (Rw wr bl N (rot Dk (o + j) (o + i) (o + i + 1))) := Rj
          clear hgj Rj
          go_wp2_with fail
          go_quiet (fail)
          go_wp2_with fail
          go_roundw
          case rel => exact ⟨i + 1, _, by omega, by omega, by go_num, grow_below HG3.out (drewN_below _ _), HR3.out.below (drewN_below _ _), hfin⟩
          case measure => simp [intOf]; omega
    · have e : b = i := by omega
      subst e
      go_wp2_with fail
      go_end0
      exact ⟨rfl, hg, Dk, Rk, hS.out⟩
end Go.Proofs.YbulkcuegFmt
