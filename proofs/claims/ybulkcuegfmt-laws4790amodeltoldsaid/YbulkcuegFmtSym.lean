import Derived.Test.YbulkcuegFmtIns
namespace Go.Proofs.YbulkcuegFmt
open Go.RowKit

set_option maxRecDepth 100000 in
set_option maxHeartbeats 2000000 in
theorem sym_left (bl o len cap N a b g : Nat) (cb : Array Value) (κ : Int → Int) (ok : Int → Prop) (D : Nat → Int) (W0 W : World) (eg : ∀ args w, (callFunc g args).run Ybaf.prog w = .ok (.enter g args) w)
    (hc : Cm W0 bl g cb κ ok) (hW : W0.grownBy W (some bl)) (hN : o + len ≤ N) (hab : a + 1 < b) (hb : b ≤ len) (hlen : len ≤ 10000) (R : Rw W bl N D) (hok : ∀ x, o + a ≤ x → x < o + b → ok (D x)) (hB : Asc κ D (o + a + 1) (o + b)) :
    Calls Ybaf.prog 59 #[.slice (some ⟨bl, o, none⟩) len cap, .int .i64 a, .int .i64 ((a : Int) + 1), .int .i64 b, .func (.func g) #[] cb] W fun e W' => e = .returned (.tuple #[]) ∧ W0.grownBy W' (some bl) ∧ ∃ D', Rw W' bl N D' ∧ Srt κ D D' (o + a) (o + b) := by
  have HC : Hid _ := hc
  have HO : Hid _ := hok
  have HB : Hid _ := hB
  clear hc hok hB
  have hq : ((a : Int) + 1 - (a : Int) == 1) = true := by rw [beq_iff_eq]; omega
  go_enter Ybaf.func59, Ybaf.ntmps59
  go_wp2_with fail
  go_loopw [10, 11] (fun vi vj wr => ∃ i j : Nat, a < i ∧ i ≤ j ∧ j ≤ b ∧ vi = .int .i64 i ∧ vj = .int .i64 j ∧ W0.grownBy wr (some bl) ∧ Rw wr bl N D ∧ Hid ((∀ x, a < x → x < i → κ (D (o + x)) < κ (D (o + a))) ∧ (∀ x, j ≤ x → x < b → κ (D (o + a)) ≤ κ (D (o + x))))) (fun vi vj _ => (intOf vj).toNat - (intOf vi).toNat)
  case atStart => exact ⟨a + 1, b, by omega, by omega, Nat.le_refl _, by go_num, rfl, hW, R, fun x h1 h2 => by omega, fun x h1 h2 => by omega⟩
  case round =>
    clear R hW
    obtain ⟨i, j, hai, hij, hjb, rfl, rfl, hg, Ri, hH⟩ := hrel
    by_cases hlt : i < j
    · have hlt' : (i : Int) < (j : Int) := by omega
      have Hg : Hid _ := hg
      have HR : Hid (Rw wr bl N D) := Ri
      clear hg Ri
      obtain ⟨h, hh, hih, hhj⟩ : ∃ h : Nat, ((i : Int) + (j : Int)) / 2 = (h : Int) ∧ i ≤ h ∧ h < j := ⟨(i + j) / 2, by omega, by omega, by omega⟩
      have Hh : Hid _ := hh
      clear hh
      have ch : wr.cell? ⟨bl, o + h, none⟩ = some (.int .i64 (D (o + h))) := HR.out.get (by omega)
      have ca : wr.cell? ⟨bl, o + a, none⟩ = some (.int .i64 (D (o + a))) := HR.out.get (by omega)
      have hbl := HR.out.lt
      have hlen1 : (h : Int) < (len : Int) := by omega
      have hlen2 : (a : Int) < (len : Int) := by omega
      have hg' : W0.grownBy wr.drew (some bl) := grow_below Hg.out (Below.drew (Below.refl _ _))
      have hcl := HC.out wr.drew (D (o + h)) (D (o + a)) hg' (HO.out _ (by omega) (by omega)) (HO.out _ (by omega) (by omega))
      go_upto_region 5 with fail
      rw [Hh.out]
      by_cases hκ : κ (D (o + h)) < κ (D (o + a))
      · have hcl' : Calls Ybaf.prog g (#[.int .i64 (D (o + h)), .int .i64 (D (o + a))] ++ cb) wr.drew fun e W' => ∃ c, e = .returned (.int .i64 c) ∧ decide (c < 0) = true ∧ Below wr.drew.heap.size wr.drew W' := hcl.mono (fun e W' ⟨c, h1, h2, h3⟩ => ⟨c, h1, by simp [h2, hκ], h3⟩)
        have hH' : Hid ((∀ x, a < x → x < h + 1 → κ (D (o + x)) < κ (D (o + a))) ∧ (∀ x, j ≤ x → x < b → κ (D (o + a)) ≤ κ (D (o + x)))) := ⟨fun x h1 h2 => Int.lt_of_le_of_lt (HB.out (o + x) (o + h) (by omega) (by omega) (by omega)) hκ, hH.out.2⟩
        clear hcl hH hκ
        go_region_held3 (fun w' => w'.cell? ⟨bl, o + h, none⟩ = some (.int .i64 (D (o + h))) ∧ w'.cell? ⟨bl, o + a, none⟩ = some (.int .i64 (D (o + a))))
          ((repeat' apply And.intro) <;> (first | assumption | exact cell_drew (by assumption) | exact keepb hb3 (cell_drew (by assumption)) hbl))
          (first | (go_at_fn g; refine hcl'.mono ?_; rintro e w3 ⟨c, rfl, hc0, hb3⟩))
        rename_i hHeld
        have HG3 : Hid _ := grow_below hg' hb3
        have HR3 : Hid (Rw w3 bl N D) := HR.out.below ((Below.drew (Below.refl _ wr)).trans hb3)
        clear ch ca hcl' hb3 hbl hg' hHeld HR Hg
        go_wp2_with fail
        go_roundw
        case rel => exact ⟨h + 1, j, by omega, by omega, hjb, by go_num, rfl, HG3.out, HR3.out, hH'⟩
        case measure => simp [intOf]; omega
      · have hcl' : Calls Ybaf.prog g (#[.int .i64 (D (o + h)), .int .i64 (D (o + a))] ++ cb) wr.drew fun e W' => ∃ c, e = .returned (.int .i64 c) ∧ decide (c < 0) = false ∧ Below wr.drew.heap.size wr.drew W' := hcl.mono (fun e W' ⟨c, h1, h2, h3⟩ => ⟨c, h1, by simp [h2, hκ], h3⟩)
        have hH' : Hid ((∀ x, a < x → x < i → κ (D (o + x)) < κ (D (o + a))) ∧ (∀ x, h ≤ x → x < b → κ (D (o + a)) ≤ κ (D (o + x)))) := ⟨hH.out.1, fun x h1 h2 => Int.le_trans (Int.not_lt.1 hκ) (HB.out (o + h) (o + x) (by omega) (by omega) (by omega))⟩
        clear hcl hH hκ
        go_region_held3 (fun w' => w'.cell? ⟨bl, o + h, none⟩ = some (.int .i64 (D (o + h))) ∧ w'.cell? ⟨bl, o + a, none⟩ = some (.int .i64 (D (o + a))))
          ((repeat' apply And.intro) <;> (first | assumption | exact cell_drew (by assumption) | exact keepb hb3 (cell_drew (by assumption)) hbl))
          (first | (go_at_fn g; refine hcl'.mono ?_; rintro e w3 ⟨c, rfl, hc0, hb3⟩))
        rename_i hHeld
        have HG3 : Hid _ := grow_below hg' hb3
        have HR3 : Hid (Rw w3 bl N D) := HR.out.below ((Below.drew (Below.refl _ wr)).trans hb3)
        clear ch ca hcl' hb3 hbl hg' hHeld HR Hg
        go_wp2_with fail
        go_roundw
        case rel => exact ⟨i, h, hai, hih, by omega, rfl, rfl, HG3.out, HR3.out, hH'⟩
        case measure => simp [intOf]; omega
    · have hs : Hid (Srt κ D (rot D (o + a) (o + a + 1) (o + i)) (o + a) (o + b)) := one_left (by omega) (by omega) HB.out
        (fun x h1 h2 => by have := hH.out.1 (x - o) (by omega) (by omega); rwa [Nat.add_sub_cancel' (by omega)] at this) (fun x h1 h2 => by have := hH.out.2 (x - o) (by omega) (by omega); rwa [Nat.add_sub_cancel' (by omega)] at this)
      have e : i = j := by omega
      subst e
      obtain ⟨ip, rfl⟩ : ∃ ip, i = ip + 1 := ⟨i - 1, by omega⟩
      have Hg : Hid _ := hg
      have HR : Hid (Rw wr bl N D) := Ri
      clear hg Ri hH HO HC HB
      have hnl : ¬ ((ip : Int) + 1) < ((ip : Int) + 1) := by omega
      go_wp2_with fail
      go_loopw [13] (fun vk wr => ∃ k : Nat, a ≤ k ∧ k ≤ ip ∧ vk = .int .i64 k ∧ W0.grownBy wr (some bl) ∧ Rw wr bl N (rot D (o + a) (o + a + 1) (o + k + 1))) (fun vk _ => ip - (intOf vk).toNat)
      case atStart => exact ⟨a, Nat.le_refl _, by omega, rfl, Hg.out, by rw [rot_none_l]; exact HR.out⟩
      case round =>
        clear Hg HR
        obtain ⟨k, hak, hki, rfl, hg, Rk⟩ := hrel
        by_cases hkk : k < ip
        · have hkk' : (k : Int) < (ip : Int) := by omega
          have hkk1 : (k : Int) + 1 < (len : Int) := by omega
          have hkk2 : (k : Int) < (len : Int) := by omega
          have p0 : (0 : Int) ≤ (k : Int) + 1 := by omega
          have e0 : ((k : Int) + 1).toNat = k + 1 := by omega
          obtain ⟨Dk, hDk⟩ : ∃ Dk, Dk = rot D (o + a) (o + a + 1) (o + k + 1) := ⟨_, rfl⟩
          rw [← hDk] at Rk
          have hsw : Hid (Rw ((wr.setCell ⟨bl, o + k, none⟩ (.int .i64 (Dk (o + (k + 1))))).setCell ⟨bl, o + (k + 1), none⟩ (.int .i64 (Dk (o + k)))) bl N (rot D (o + a) (o + a + 1) (o + (k + 1) + 1))) := by
            have := Rk.swap (i := o + k) (j := o + (k + 1)) (by omega) (by omega)
            rw [show o + (k + 1) + 1 = o + k + 2 by omega, rot_one_left D (show o + a ≤ o + k by omega), ← hDk]
            exact this
          have x1 : wr.cell? ⟨bl, o + k, none⟩ = some (.int .i64 (Dk (o + k))) := Rk.get (by omega)
          have x2 : wr.cell? ⟨bl, o + (k + 1), none⟩ = some (.int .i64 (Dk (o + (k + 1)))) := Rk.get (by omega)
          have z1 := Rk.fz (o + k)
          have z2 := Rk.fz (o + (k + 1))
          have HG : Hid _ := hg
          clear hg Rk hDk
          obtain ⟨k1, hk1⟩ : ∃ k1, k1 = k + 1 := ⟨_, rfl⟩
          rw [← hk1] at x2 z2 e0 hsw
          have K1 : Hid (k1 = k + 1) := hk1
          clear hk1
          go_wp2_with fail
          go_region
          go_wp2_with fail
          go_roundw
          case rel => exact ⟨k + 1, by omega, by omega, by go_num, grow_below (Rw.swap_below _ _ HG.out) (Below.drew (Below.refl _ _)), by rw [← K1.out]; exact Rw.of_block hsw.out rfl⟩
          case measure => simp [intOf]; omega
        · have e : k = ip := by omega
          subst e
          have hnl2 : ¬ (k : Int) < (k : Int) := by omega
          go_wp2_with fail
          exact bodyPost_ret (v := .tuple #[]) (by simp [results, Ybaf.results59]) rfl ⟨rfl, hg, _, Rk, hs.out⟩

set_option maxRecDepth 100000 in
set_option maxHeartbeats 2000000 in
theorem sym_right (bl o len cap N a m g : Nat) (cb : Array Value) (κ : Int → Int) (ok : Int → Prop) (D : Nat → Int) (W0 W : World) (eg : ∀ args w, (callFunc g args).run Ybaf.prog w = .ok (.enter g args) w)
    (hc : Cm W0 bl g cb κ ok) (hW : W0.grownBy W (some bl)) (hN : o + len ≤ N) (hab : a + 1 < m) (hb : m + 1 ≤ len) (hlen : len ≤ 10000) (R : Rw W bl N D) (hok : ∀ x, o + a ≤ x → x < o + m + 1 → ok (D x)) (hA : Asc κ D (o + a) (o + m)) :
    Calls Ybaf.prog 59 #[.slice (some ⟨bl, o, none⟩) len cap, .int .i64 a, .int .i64 m, .int .i64 ((m : Int) + 1), .func (.func g) #[] cb] W fun e W' => e = .returned (.tuple #[]) ∧ W0.grownBy W' (some bl) ∧ ∃ D', Rw W' bl N D' ∧ Srt κ D D' (o + a) (o + m + 1) := by
  have HC : Hid _ := hc
  have HO : Hid _ := hok
  have HA : Hid _ := hA
  clear hc hok hA
  have hq : ((m : Int) - (a : Int) == 1) = false := by rw [beq_eq_false_iff_ne]; omega
  have hq2 : ((m : Int) + 1 - (m : Int) == 1) = true := by rw [beq_iff_eq]; omega
  go_enter Ybaf.func59, Ybaf.ntmps59
  go_wp2_with fail
  go_loopw [14, 15] (fun vi vj wr => ∃ i j : Nat, a ≤ i ∧ i ≤ j ∧ j ≤ m ∧ vi = .int .i64 i ∧ vj = .int .i64 j ∧ W0.grownBy wr (some bl) ∧ Rw wr bl N D ∧ Hid ((∀ x, a ≤ x → x < i → κ (D (o + x)) ≤ κ (D (o + m))) ∧ (∀ x, j ≤ x → x < m → κ (D (o + m)) < κ (D (o + x))))) (fun vi vj _ => (intOf vj).toNat - (intOf vi).toNat)
  case atStart => exact ⟨a, m, Nat.le_refl _, by omega, Nat.le_refl _, rfl, rfl, hW, R, fun x h1 h2 => by omega, fun x h1 h2 => by omega⟩
  case round =>
    clear R hW
    obtain ⟨i, j, hai, hij, hjb, rfl, rfl, hg, Ri, hH⟩ := hrel
    by_cases hlt : i < j
    · have hlt' : (i : Int) < (j : Int) := by omega
      have Hg : Hid _ := hg
      have HR : Hid (Rw wr bl N D) := Ri
      clear hg Ri
      obtain ⟨h, hh, hih, hhj⟩ : ∃ h : Nat, ((i : Int) + (j : Int)) / 2 = (h : Int) ∧ i ≤ h ∧ h < j := ⟨(i + j) / 2, by omega, by omega, by omega⟩
      have Hh : Hid _ := hh
      clear hh
      have ch : wr.cell? ⟨bl, o + h, none⟩ = some (.int .i64 (D (o + h))) := HR.out.get (by omega)
      have ca : wr.cell? ⟨bl, o + m, none⟩ = some (.int .i64 (D (o + m))) := HR.out.get (by omega)
      have hbl := HR.out.lt
      have hlen1 : (h : Int) < (len : Int) := by omega
      have hlen2 : (m : Int) < (len : Int) := by omega
      have hg' : W0.grownBy wr.drew (some bl) := grow_below Hg.out (Below.drew (Below.refl _ _))
      have hcl := HC.out wr.drew (D (o + m)) (D (o + h)) hg' (HO.out _ (by omega) (by omega)) (HO.out _ (by omega) (by omega))
      go_upto_region 17 with fail
      rw [Hh.out]
      by_cases hκ : κ (D (o + m)) < κ (D (o + h))
      · have hcl' : Calls Ybaf.prog g (#[.int .i64 (D (o + m)), .int .i64 (D (o + h))] ++ cb) wr.drew fun e W' => ∃ c, e = .returned (.int .i64 c) ∧ decide (c < 0) = true ∧ Below wr.drew.heap.size wr.drew W' := hcl.mono (fun e W' ⟨c, h1, h2, h3⟩ => ⟨c, h1, by simp [h2, hκ], h3⟩)
        have hH' : Hid ((∀ x, a ≤ x → x < i → κ (D (o + x)) ≤ κ (D (o + m))) ∧ (∀ x, h ≤ x → x < m → κ (D (o + m)) < κ (D (o + x)))) := ⟨hH.out.1, fun x h1 h2 => Int.lt_of_lt_of_le hκ (HA.out (o + h) (o + x) (by omega) (by omega) (by omega))⟩
        clear hcl hH hκ
        go_region_held3 (fun w' => w'.cell? ⟨bl, o + h, none⟩ = some (.int .i64 (D (o + h))) ∧ w'.cell? ⟨bl, o + m, none⟩ = some (.int .i64 (D (o + m))))
          ((repeat' apply And.intro) <;> (first | assumption | exact cell_drew (by assumption) | exact keepb hb3 (cell_drew (by assumption)) hbl))
          (first | (go_at_fn g; refine hcl'.mono ?_; rintro e w3 ⟨c, rfl, hc0, hb3⟩))
        rename_i hHeld
        have HG3 : Hid _ := grow_below hg' hb3
        have HR3 : Hid (Rw w3 bl N D) := HR.out.below ((Below.drew (Below.refl _ wr)).trans hb3)
        clear ch ca hcl' hb3 hbl hg' hHeld HR Hg
        go_wp2_with fail
        go_roundw
        case rel => exact ⟨i, h, hai, hih, by omega, rfl, rfl, HG3.out, HR3.out, hH'⟩
        case measure => simp [intOf]; omega
      · have hcl' : Calls Ybaf.prog g (#[.int .i64 (D (o + m)), .int .i64 (D (o + h))] ++ cb) wr.drew fun e W' => ∃ c, e = .returned (.int .i64 c) ∧ decide (c < 0) = false ∧ Below wr.drew.heap.size wr.drew W' := hcl.mono (fun e W' ⟨c, h1, h2, h3⟩ => ⟨c, h1, by simp [h2, hκ], h3⟩)
        have hH' : Hid ((∀ x, a ≤ x → x < h + 1 → κ (D (o + x)) ≤ κ (D (o + m))) ∧ (∀ x, j ≤ x → x < m → κ (D (o + m)) < κ (D (o + x)))) := ⟨fun x h1 h2 => Int.le_trans (HA.out (o + x) (o + h) (by omega) (by omega) (by omega)) (Int.not_lt.1 hκ), hH.out.2⟩
        clear hcl hH hκ
        go_region_held3 (fun w' => w'.cell? ⟨bl, o + h, none⟩ = some (.int .i64 (D (o + h))) ∧ w'.cell? ⟨bl, o + m, none⟩ = some (.int .i64 (D (o + m))))
          ((repeat' apply And.intro) <;> (first | assumption | exact cell_drew (by assumption) | exact keepb hb3 (cell_drew (by assumption)) hbl))
          (first | (go_at_fn g; refine hcl'.mono ?_; rintro e w3 ⟨c, rfl, hc0, hb3⟩))
        rename_i hHeld
        have HG3 : Hid _ := grow_below hg' hb3
        have HR3 : Hid (Rw w3 bl N D) := HR.out.below ((Below.drew (Below.refl _ wr)).trans hb3)
        clear ch ca hcl' hb3 hbl hg' hHeld HR Hg
        go_wp2_with fail
        go_roundw
        case rel => exact ⟨h + 1, j, by omega, by omega, hjb, by go_num, rfl, HG3.out, HR3.out, hH'⟩
        case measure => simp [intOf]; omega
    · have e : i = j := by omega
      subst e
      have hs : Hid (Srt κ D (rot D (o + i) (o + m) (o + m + 1)) (o + a) (o + m + 1)) := one_right (by omega) (by omega) HA.out
        (fun x h1 h2 => by have := hH.out.1 (x - o) (by omega) (by omega); rwa [Nat.add_sub_cancel' (by omega)] at this) (fun x h1 h2 => by have := hH.out.2 (x - o) (by omega) (by omega); rwa [Nat.add_sub_cancel' (by omega)] at this)
      have Hg : Hid _ := hg
      have HR : Hid (Rw wr bl N D) := Ri
      clear hg Ri hH HO HC HA
      have hnl : ¬ (i : Int) < (i : Int) := by omega
      go_wp2_with fail
      go_loopw [17] (fun vk wr => ∃ k : Nat, i ≤ k ∧ k ≤ m ∧ vk = .int .i64 k ∧ W0.grownBy wr (some bl) ∧ Rw wr bl N (rot D (o + k) (o + m) (o + m + 1))) (fun vk _ => (intOf vk).toNat)
      case atStart => exact ⟨m, by omega, Nat.le_refl _, rfl, Hg.out, by rw [rot_none_r]; exact HR.out⟩
      case round =>
        clear Hg HR
        obtain ⟨k, hak, hki, rfl, hg, Rk⟩ := hrel
        by_cases hkk : i < k
        · obtain ⟨kp, rfl⟩ : ∃ kp, k = kp + 1 := ⟨k - 1, by omega⟩
          have hkk' : (i : Int) < (kp : Int) + 1 := by omega
          have hkk1 : (kp : Int) + 1 < (len : Int) := by omega
          have hkk2 : (kp : Int) < (len : Int) := by omega
          have p0 : (0 : Int) ≤ (kp : Int) + 1 := by omega
          have p1 : (0 : Int) ≤ (kp : Int) := by omega
          have e0 : ((kp : Int) + 1).toNat = kp + 1 := by omega
          have hwp : IntKind.i64.wrap (kp : Int) = (kp : Int) := by rw [IntKind.wrap_i64]; omega
          obtain ⟨Dk, hDk⟩ : ∃ Dk, Dk = rot D (o + (kp + 1)) (o + m) (o + m + 1) := ⟨_, rfl⟩
          rw [← hDk] at Rk
          have hsw : Hid (Rw ((wr.setCell ⟨bl, o + (kp + 1), none⟩ (.int .i64 (Dk (o + kp)))).setCell ⟨bl, o + kp, none⟩ (.int .i64 (Dk (o + (kp + 1))))) bl N (rot D (o + kp) (o + m) (o + m + 1))) := by
            have := Rk.swap (i := o + (kp + 1)) (j := o + kp) (by omega) (by omega)
            rw [rot_one_right D (show o + kp < o + m by omega), show o + kp + 1 = o + (kp + 1) by omega, ← hDk]
            exact this
          have x1 : wr.cell? ⟨bl, o + kp, none⟩ = some (.int .i64 (Dk (o + kp))) := Rk.get (by omega)
          have x2 : wr.cell? ⟨bl, o + (kp + 1), none⟩ = some (.int .i64 (Dk (o + (kp + 1)))) := Rk.get (by omega)
          have z1 := Rk.fz (o + kp)
          have z2 := Rk.fz (o + (kp + 1))
          have HG : Hid _ := hg
          clear hg Rk hDk
          obtain ⟨k1, hk1⟩ : ∃ k1, k1 = kp + 1 := ⟨_, rfl⟩
          rw [← hk1] at x2 z2 e0 hsw
          clear hk1
          go_wp2_with fail
          go_region
          go_wp2_with fail
          go_roundw
          case rel => exact ⟨kp, by omega, by omega, by first | rfl | go_num | (congr 1; omega), grow_below (Rw.swap_below _ _ HG.out) (Below.drew (Below.refl _ _)), Rw.of_block hsw.out rfl⟩
          case measure => simp [intOf]
        · have e : k = i := by omega
          subst e
          have hnl2 : ¬ (k : Int) < (k : Int) := by omega
          go_wp2_with fail
          exact bodyPost_ret (v := .tuple #[]) (by simp [results, Ybaf.results59]) rfl ⟨rfl, hg, _, Rk, hs.out⟩

theorem rot_id1 (D : Nat → Int) (s u : Nat) : rot D s s u = D := by
  funext x
  simp only [rot]
  repeat' split
  all_goals first | rfl | (exfalso; omega) | (congr 1; omega)
theorem rot_id2 (D : Nat → Int) (s t : Nat) : rot D s t t = D := by
  funext x
  simp only [rot]
  repeat' split
  all_goals first | rfl | (exfalso; omega) | (congr 1; omega)

/-- symMerge at less than sz elements -/
def SymOK (bl o len cap N g : Nat) (cb : Array Value) (κ : Int → Int) (ok : Int → Prop) (W0 : World) (sz : Nat) : Prop :=
  ∀ (a m b : Nat) (D : Nat → Int) (W : World), b - a < sz → W0.grownBy W (some bl) → a < m → m < b → b ≤ len → Rw W bl N D → (∀ x, o + a ≤ x → x < o + b → ok (D x)) → Asc κ D (o + a) (o + m) → Asc κ D (o + m) (o + b) →
    Calls Ybaf.prog 59 #[.slice (some ⟨bl, o, none⟩) len cap, .int .i64 a, .int .i64 m, .int .i64 b, .func (.func g) #[] cb] W fun e W' => e = .returned (.tuple #[]) ∧ W0.grownBy W' (some bl) ∧ ∃ D', Rw W' bl N D' ∧ Srt κ D D' (o + a) (o + b)

theorem Srt.okk {κ : Int → Int} {ok : Int → Prop} {D D' : Nat → Int} {a b : Nat} (h : Srt κ D D' a b) {l r : Nat} (hl : l ≤ a) (hr : b ≤ r) (hok : ∀ x, l ≤ x → x < r → ok (D x)) : ∀ x, l ≤ x → x < r → ok (D' x) := fun x h1 h2 => by
  by_cases c : a ≤ x ∧ x < b
  · obtain ⟨y, y1, y2, y3⟩ := h.mem c.1 c.2
    rw [← y3]; exact hok y (by omega) (by omega)
  · rw [h.out x (by omega)]; exact hok x h1 h2
theorem rot_ok {ok : Int → Prop} {D : Nat → Int} {s t u l r : Nat} (h1 : s ≤ t) (h2 : t ≤ u) (hl : l ≤ s) (hr : u ≤ r) (hok : ∀ x, l ≤ x → x < r → ok (D x)) : ∀ x, l ≤ x → x < r → ok (rot D s t u x) := fun x hx hx' => by
  unfold rot
  split
  · exact hok _ hx hx'
  · split
    · exact hok _ (by omega) (by omega)
    · split
      · exact hok _ (by omega) (by omega)
      · exact hok _ hx hx'

set_option maxRecDepth 100000 in
set_option maxHeartbeats 4000000 in
theorem sym_gen (bl o len cap N a m b g : Nat) (cb : Array Value) (κ : Int → Int) (ok : Int → Prop) (D : Nat → Int) (W0 W : World) (eg : ∀ args w, (callFunc g args).run Ybaf.prog w = .ok (.enter g args) w)
    (hc : Cm W0 bl g cb κ ok) (hW : W0.grownBy W (some bl)) (hN : o + len ≤ N) (ham : a + 1 < m) (hmb : m + 1 < b) (hb : b ≤ len) (hlen : len ≤ 10000) (R : Rw W bl N D) (hok : ∀ x, o + a ≤ x → x < o + b → ok (D x)) (hA : Asc κ D (o + a) (o + m)) (hB : Asc κ D (o + m) (o + b))
    (IH : SymOK bl o len cap N g cb κ ok W0 (b - a)) :
    Calls Ybaf.prog 59 #[.slice (some ⟨bl, o, none⟩) len cap, .int .i64 a, .int .i64 m, .int .i64 b, .func (.func g) #[] cb] W fun e W' => e = .returned (.tuple #[]) ∧ W0.grownBy W' (some bl) ∧ ∃ D', Rw W' bl N D' ∧ Srt κ D D' (o + a) (o + b) := by
  have HC : Hid _ := hc
  have HO : Hid _ := hok
  have HAB : Hid _ := And.intro hA hB
  have HI : Hid _ := IH
  clear hc hok hA hB IH
  have hq : ((m : Int) - (a : Int) == 1) = false := by rw [beq_eq_false_iff_ne]; omega
  have hq2 : ((b : Int) - (m : Int) == 1) = false := by rw [beq_eq_false_iff_ne]; omega
  obtain ⟨mid, hmid⟩ : ∃ mid : Nat, mid = (a + b) / 2 := ⟨_, rfl⟩
  have Hmid : Hid (((a : Int) + (b : Int)) / 2 = (mid : Int)) := by show _ = _; omega
  have hm1 : a < mid := by omega
  have hm2 : mid < b := by omega
  have HM : Hid _ := hmid
  obtain ⟨s0, hs0⟩ : ∃ s0 : Nat, s0 = if mid < m then mid + m - b else a := ⟨_, rfl⟩
  obtain ⟨r0, hr0⟩ : ∃ r0 : Nat, r0 = if mid < m then mid else m := ⟨_, rfl⟩
  have HS : Hid ((a ≤ s0 ∧ mid + m ≤ b + s0 ∧ s0 ≤ r0 ∧ r0 ≤ m ∧ r0 ≤ mid) ∧ (∀ s, a < s → mid + m < b + s → s0 < s) ∧ (∀ s, s < m → s < mid → s < r0)) := by
    show _ ∧ _
    rw [hs0, hr0]
    split
    · exact ⟨⟨by omega, by omega, by omega, by omega, by omega⟩, fun s h1 h2 => by omega, fun s h1 h2 => by omega⟩
    · exact ⟨⟨by omega, by omega, by omega, by omega, by omega⟩, fun s h1 h2 => by omega, fun s h1 h2 => by omega⟩
  have HR0 : Hid _ := And.intro hs0 hr0
  clear hs0 hr0 hmid
  go_enter Ybaf.func59, Ybaf.ntmps59
  go_upto_region 25 with fail
  rw [Hmid.out]
  go_upto_if 140 with fail
  go_cut [20, 21] (fun vs vr wx => vs = .int .i64 s0 ∧ vr = .int .i64 r0 ∧ W = wx)
  case first =>
    by_cases hmm : mid < m
    · have hmm' : (mid : Int) < (m : Int) := by omega
      go_wp2_with fail
      go_meet
      obtain ⟨e1, e2⟩ := HR0.out
      rw [if_pos hmm] at e1 e2
      have hm3 : mid = (a + b) / 2 := HM.out
      exact ⟨by rw [e1]; congr 1; omega, by rw [e2], rfl⟩
    · have hmm' : ¬ (mid : Int) < (m : Int) := by omega
      go_wp2_with fail
      go_meet
      obtain ⟨e1, e2⟩ := HR0.out
      rw [if_neg hmm] at e1 e2
      exact ⟨by rw [e1], by rw [e2], rfl⟩
  case rest =>
    obtain ⟨rfl, rfl, rfl⟩ := hcut
    clear HR0
    go_wp2_with fail
    go_loopw [20, 21] (fun vs vr wr => ∃ s r : Nat, s0 ≤ s ∧ s ≤ r ∧ r ≤ r0 ∧ vs = .int .i64 s ∧ vr = .int .i64 r ∧ W0.grownBy wr (some bl) ∧ Rw wr bl N D ∧ Hid ((∀ c, s0 ≤ c → c < s → κ (D (o + c)) ≤ κ (D (o + (mid + m - 1 - c)))) ∧ (∀ c, r ≤ c → c < r0 → κ (D (o + (mid + m - 1 - c))) < κ (D (o + c))))) (fun vs vr _ => (intOf vr).toNat - (intOf vs).toNat)
    case atStart => exact ⟨s0, r0, Nat.le_refl _, HS.out.1.2.2.1, Nat.le_refl _, rfl, rfl, hW, R, fun c h1 h2 => by omega, fun c h1 h2 => by omega⟩
    case round =>
      clear R hW
      obtain ⟨s, r, hss, hsr, hrr, rfl, rfl, hg, Ri, hH⟩ := hrel
      obtain ⟨⟨q1, q2, q3, q4, q5⟩, q6, q7⟩ := HS.out
      by_cases hlt : s < r
      · have hlt' : (s : Int) < (r : Int) := by omega
        have Hg : Hid _ := hg
        have HR : Hid (Rw wr bl N D) := Ri
        clear hg Ri
        obtain ⟨c, hcc, hsc, hcr⟩ : ∃ c : Nat, ((s : Int) + (r : Int)) / 2 = (c : Int) ∧ s ≤ c ∧ c < r := ⟨(s + r) / 2, by omega, by omega, by omega⟩
        have Hcc : Hid _ := hcc
        clear hcc
        obtain ⟨pc, hpc⟩ : ∃ pc : Nat, pc = mid + m - 1 - c := ⟨_, rfl⟩
        have hp : (mid : Int) + (m : Int) - 1 = (pc : Int) + (c : Int) := by omega
        have p0 : (0 : Int) ≤ (pc : Int) := by omega
        have hwp : IntKind.i64.wrap (pc : Int) = (pc : Int) := by rw [IntKind.wrap_i64]; omega
        have Hp : Hid _ := hp
        clear hp
        have hpl : m ≤ pc ∧ pc < b := by omega
        have ch : wr.cell? ⟨bl, o + pc, none⟩ = some (.int .i64 (D (o + pc))) := HR.out.get (by omega)
        have ca : wr.cell? ⟨bl, o + c, none⟩ = some (.int .i64 (D (o + c))) := HR.out.get (by omega)
        have hbl := HR.out.lt
        have hlen1 : (pc : Int) < (len : Int) := by omega
        have hlen2 : (c : Int) < (len : Int) := by omega
        have hg' : W0.grownBy wr.drew (some bl) := grow_below Hg.out (Below.drew (Below.refl _ _))
        have hcl := HC.out wr.drew (D (o + pc)) (D (o + c)) hg' (HO.out _ (by omega) (by omega)) (HO.out _ (by omega) (by omega))
        have HPC : Hid (pc = mid + m - 1 - c) := hpc
        clear hpc
        go_upto_region 35 with fail
        rw [Hcc.out]
        rw [Hp.out]
        by_cases hκ : κ (D (o + pc)) < κ (D (o + c))
        · have hcl' : Calls Ybaf.prog g (#[.int .i64 (D (o + pc)), .int .i64 (D (o + c))] ++ cb) wr.drew fun e W' => ∃ z, e = .returned (.int .i64 z) ∧ decide (z < 0) = true ∧ Below wr.drew.heap.size wr.drew W' := hcl.mono (fun e W' ⟨z, h1, h2, h3⟩ => ⟨z, h1, by simp [h2, hκ], h3⟩)
          have hpc : pc = mid + m - 1 - c := HPC.out
          have hH' : Hid ((∀ t, s0 ≤ t → t < s → κ (D (o + t)) ≤ κ (D (o + (mid + m - 1 - t)))) ∧ (∀ t, c ≤ t → t < r0 → κ (D (o + (mid + m - 1 - t))) < κ (D (o + t)))) := ⟨hH.out.1, fun c' h1 h2 => Int.lt_of_le_of_lt (HAB.out.2 (o + (mid + m - 1 - c')) (o + pc) (by omega) (by omega) (by omega)) (Int.lt_of_lt_of_le hκ (HAB.out.1 (o + c) (o + c') (by omega) (by omega) (by omega)))⟩
          clear hcl hH hκ hpc
          go_region_held3 (fun w' => w'.cell? ⟨bl, o + pc, none⟩ = some (.int .i64 (D (o + pc))) ∧ w'.cell? ⟨bl, o + c, none⟩ = some (.int .i64 (D (o + c))))
            ((repeat' apply And.intro) <;> (first | assumption | exact cell_drew (by assumption) | exact keepb hb3 (cell_drew (by assumption)) hbl))
            (first | (go_at_fn g; refine hcl'.mono ?_; rintro e w3 ⟨z, rfl, hc0, hb3⟩))
          rename_i hHeld
          have HG3 : Hid _ := grow_below hg' hb3
          have HR3 : Hid (Rw w3 bl N D) := HR.out.below ((Below.drew (Below.refl _ wr)).trans hb3)
          clear ch ca hcl' hb3 hbl hg' hHeld HR Hg hwp p0
          rw [← Hp.out]
          go_wp2_with fail
          go_roundw
          case rel => exact ⟨s, c, hss, hsc, by omega, rfl, rfl, HG3.out, HR3.out, hH'⟩
          case measure => simp [intOf]; omega
        · have hcl' : Calls Ybaf.prog g (#[.int .i64 (D (o + pc)), .int .i64 (D (o + c))] ++ cb) wr.drew fun e W' => ∃ z, e = .returned (.int .i64 z) ∧ decide (z < 0) = false ∧ Below wr.drew.heap.size wr.drew W' := hcl.mono (fun e W' ⟨z, h1, h2, h3⟩ => ⟨z, h1, by simp [h2, hκ], h3⟩)
          have hpc : pc = mid + m - 1 - c := HPC.out
          have hH' : Hid ((∀ t, s0 ≤ t → t < c + 1 → κ (D (o + t)) ≤ κ (D (o + (mid + m - 1 - t)))) ∧ (∀ t, r ≤ t → t < r0 → κ (D (o + (mid + m - 1 - t))) < κ (D (o + t)))) := ⟨fun c' h1 h2 => Int.le_trans (HAB.out.1 (o + c') (o + c) (by omega) (by omega) (by omega)) (Int.le_trans (Int.not_lt.1 hκ) (HAB.out.2 (o + pc) (o + (mid + m - 1 - c')) (by omega) (by omega) (by omega))), hH.out.2⟩
          clear hcl hH hκ hpc
          go_region_held3 (fun w' => w'.cell? ⟨bl, o + pc, none⟩ = some (.int .i64 (D (o + pc))) ∧ w'.cell? ⟨bl, o + c, none⟩ = some (.int .i64 (D (o + c))))
            ((repeat' apply And.intro) <;> (first | assumption | exact cell_drew (by assumption) | exact keepb hb3 (cell_drew (by assumption)) hbl))
            (first | (go_at_fn g; refine hcl'.mono ?_; rintro e w3 ⟨z, rfl, hc0, hb3⟩))
          rename_i hHeld
          have HG3 : Hid _ := grow_below hg' hb3
          have HR3 : Hid (Rw w3 bl N D) := HR.out.below ((Below.drew (Below.refl _ wr)).trans hb3)
          clear ch ca hcl' hb3 hbl hg' hHeld HR Hg hwp p0
          rw [← Hp.out]
          go_wp2_with fail
          go_roundw
          case rel => exact ⟨c + 1, r, by omega, by omega, hrr, by go_num, rfl, HG3.out, HR3.out, hH'⟩
          case measure => simp [intOf]; omega
      · have e : s = r := by omega
        subst e
        obtain ⟨en, hen⟩ : ∃ en : Nat, en = mid + m - s := ⟨_, rfl⟩
        have Hen : Hid ((mid : Int) + (m : Int) - (s : Int) = (en : Int)) := by show _ = _; omega
        have hst := sym_step (κ := κ) (D := D) (a := o + a) (m := o + m) (b := o + b) (mid := o + mid) (start := o + s) (by omega) (by omega) (by have hm3 : mid = (a + b) / 2 := HM.out; omega) HAB.out.1 HAB.out.2 (by omega) (by omega) (by omega) (by omega)
          (fun h1 h2 => by
            have := hH.out.1 (s - 1) (by have := q6 s (by omega) (by omega); omega) (by omega)
            rw [show o + (s - 1) = o + s - 1 by omega, show o + (mid + m - 1 - (s - 1)) = o + mid + (o + m) - (o + s) by omega] at this
            exact this)
          (fun h1 h2 => by
            have := hH.out.2 s (Nat.le_refl _) (q7 s (by omega) (by omega))
            rw [show o + (mid + m - 1 - s) = o + mid + (o + m) - (o + s) - 1 by omega] at this
            exact this)
        rw [show o + mid + (o + m) - (o + s) = o + en by omega] at hst
        obtain ⟨A1, A2, A3, A4, A5⟩ := hst
        have hpm : Hid ((seg (rot D (o + s) (o + m) (o + en)) (o + a) (o + b)).Perm (seg D (o + a) (o + b)) ∧ ∀ x, x < o + a ∨ o + b ≤ x → rot D (o + s) (o + m) (o + en) x = D x) := ⟨rot_perm D (by omega) (by omega) (by omega) (by omega), fun x hx => rot_out D (by omega) (by omega) (by omega)⟩
        have hok1 : ∀ x, o + a ≤ x → x < o + b → ok (rot D (o + s) (o + m) (o + en) x) := rot_ok (by omega) (by omega) (by omega) (by omega) HO.out
        have hrotid : s = m ∨ s = mid → rot D (o + s) (o + m) (o + en) = D := fun h => by
          rcases h with h | h
          · rw [h]; exact rot_id1 _ _ _
          · rw [show en = m by omega]; exact rot_id2 _ _ _
        have hrt := fun (W' : World) (h : Rw W' bl N D) (h1 : s < m) (h2 : m < en) => rotate_any bl o len cap N s m en (.func (.func g) #[] cb) D W' hN h1 h2 (by omega) hlen h
        generalize rot D (o + s) (o + m) (o + en) = D1 at A1 A2 A3 A4 A5 hpm hok1 hrotid hrt
        have HA : Hid _ := And.intro A1 (And.intro A2 (And.intro A3 (And.intro A4 (And.intro A5 (And.intro hok1 hrotid)))))
        have Hrt : Hid _ := hrt
        have Hg : Hid _ := hg
        have HR : Hid (Rw wr bl N D) := Ri
        have Hn : Hid (en = mid + m - s) := hen
        clear A1 A2 A3 A4 A5 hok1 hrotid hrt hg Ri hH HC HO HAB
        have hnl : ¬ (s : Int) < (s : Int) := by omega
        have b1 : s0 ≤ s ∧ s ≤ m ∧ s ≤ mid ∧ a ≤ s ∧ mid + m ≤ b + s := by omega
        clear hen
        go_upto_region 39 with fail
        rw [Hen.out]
        by_cases c1 : s < mid
        · by_cases c2 : s < m
          · by_cases c3 : a < s
            · by_cases c4 : en < b
              · have f1 : ((s : Nat) : Int) < ((m : Nat) : Int) := by have := Hn.out; omega
                have f2 : ((m : Nat) : Int) < ((en : Nat) : Int) := by have := Hn.out; omega
                have f3 : ((a : Nat) : Int) < ((s : Nat) : Int) := by have := Hn.out; omega
                have f4 : ((s : Nat) : Int) < ((mid : Nat) : Int) := by have := Hn.out; omega
                have f5 : ((mid : Nat) : Int) < ((en : Nat) : Int) := by have := Hn.out; omega
                have f6 : ((en : Nat) : Int) < ((b : Nat) : Int) := by have := Hn.out; omega
                have hc1 := Hrt.out wr HR.out (by omega) (by have := Hn.out; omega)
                go_wp2_with fail
                refine hc1.mono ?_
                rintro e w1 ⟨rfl, hg1, R1⟩
                have HW1 : Hid (W0.grownBy w1 (some bl) ∧ Rw w1 bl N D1) := ⟨grow_trans Hg.out hg1, R1⟩
                clear hc1 hg1 R1 Hg HR
                have hc2 := HI.out a s mid D1 w1 (by omega) HW1.out.1 (by omega) (by omega) (by omega) HW1.out.2 (fun x h1 h2 => HA.out.2.2.2.2.2.1 x h1 (by omega)) HA.out.1 HA.out.2.1
                go_wp2_with fail
                refine hc2.mono ?_
                rintro e w2 ⟨rfl, hg2, D2, R2, S2⟩
                have HW2 : Hid (W0.grownBy w2 (some bl) ∧ Rw w2 bl N D2 ∧ Srt κ D1 D2 (o + a) (o + mid)) := ⟨hg2, R2, S2⟩
                clear hc2 hg2 R2 S2 HW1
                have C1 : Asc κ D2 (o + mid) (o + en) := fun x y h1 h2 h3 => by rw [HW2.out.2.2.out x (.inr h1), HW2.out.2.2.out y (.inr (by omega))]; exact HA.out.2.2.1 x y h1 h2 h3
                have C2 : Asc κ D2 (o + en) (o + b) := fun x y h1 h2 h3 => by have := Hn.out; rw [HW2.out.2.2.out x (.inr (by omega)), HW2.out.2.2.out y (.inr (by omega))]; exact HA.out.2.2.2.1 x y h1 h2 h3
                have hc3 := HI.out mid en b D2 w2 (by omega) HW2.out.1 (by have := Hn.out; omega) (by have := Hn.out; omega) hb HW2.out.2.1 (fun x h1 h2 => (HW2.out.2.2.okk (l := o + a) (r := o + b) (Nat.le_refl _) (by omega) HA.out.2.2.2.2.2.1) x (by omega) h2) C1 C2
                clear C1 C2
                go_wp2_with fail
                refine hc3.mono ?_
                rintro e w3 ⟨rfl, hg3, D3, R3, S3⟩
                clear hc3
                go_wp2_with fail
                go_end0
                exact ⟨rfl, hg3, D3, R3, Srt.join (by omega) (by omega) hpm.out.1 hpm.out.2 HA.out.2.2.2.2.1 HW2.out.2.2 S3⟩
              · have f1 : ((s : Nat) : Int) < ((m : Nat) : Int) := by have := Hn.out; omega
                have f2 : ((m : Nat) : Int) < ((en : Nat) : Int) := by have := Hn.out; omega
                have f3 : ((a : Nat) : Int) < ((s : Nat) : Int) := by have := Hn.out; omega
                have f4 : ((s : Nat) : Int) < ((mid : Nat) : Int) := by have := Hn.out; omega
                have f5 : ((mid : Nat) : Int) < ((en : Nat) : Int) := by have := Hn.out; omega
                have f6 : ¬ ((en : Nat) : Int) < ((b : Nat) : Int) := by have := Hn.out; omega
                have hc1 := Hrt.out wr HR.out (by omega) (by have := Hn.out; omega)
                go_wp2_with fail
                refine hc1.mono ?_
                rintro e w1 ⟨rfl, hg1, R1⟩
                have HW1 : Hid (W0.grownBy w1 (some bl) ∧ Rw w1 bl N D1) := ⟨grow_trans Hg.out hg1, R1⟩
                clear hc1 hg1 R1 Hg HR
                have hc2 := HI.out a s mid D1 w1 (by omega) HW1.out.1 (by omega) (by omega) (by omega) HW1.out.2 (fun x h1 h2 => HA.out.2.2.2.2.2.1 x h1 (by omega)) HA.out.1 HA.out.2.1
                go_wp2_with fail
                refine hc2.mono ?_
                rintro e w2 ⟨rfl, hg2, D2, R2, S2⟩
                have HW2 : Hid (W0.grownBy w2 (some bl) ∧ Rw w2 bl N D2 ∧ Srt κ D1 D2 (o + a) (o + mid)) := ⟨hg2, R2, S2⟩
                clear hc2 hg2 R2 S2 HW1
                have C1 : Asc κ D2 (o + mid) (o + en) := fun x y h1 h2 h3 => by rw [HW2.out.2.2.out x (.inr h1), HW2.out.2.2.out y (.inr (by omega))]; exact HA.out.2.2.1 x y h1 h2 h3
                have C2 : Asc κ D2 (o + en) (o + b) := fun x y h1 h2 h3 => by have := Hn.out; rw [HW2.out.2.2.out x (.inr (by omega)), HW2.out.2.2.out y (.inr (by omega))]; exact HA.out.2.2.2.1 x y h1 h2 h3
                have S3 : Srt κ D2 D2 (o + mid) (o + b) := Srt.id (by
                  have := Hn.out
                  rcases (show en = mid ∨ en = b by omega) with h | h
                  · rwa [h] at C2
                  · rwa [h] at C1)
                have HS3 : Hid _ := S3
                clear C1 C2 S3
                go_wp2_with fail
                go_end0
                exact ⟨rfl, HW2.out.1, D2, HW2.out.2.1, Srt.join (by omega) (by omega) hpm.out.1 hpm.out.2 HA.out.2.2.2.2.1 HW2.out.2.2 HS3.out⟩
            · by_cases c4 : en < b
              · have f1 : ((s : Nat) : Int) < ((m : Nat) : Int) := by have := Hn.out; omega
                have f2 : ((m : Nat) : Int) < ((en : Nat) : Int) := by have := Hn.out; omega
                have f3 : ¬ ((a : Nat) : Int) < ((s : Nat) : Int) := by have := Hn.out; omega
                have f4 : ((s : Nat) : Int) < ((mid : Nat) : Int) := by have := Hn.out; omega
                have f5 : ((mid : Nat) : Int) < ((en : Nat) : Int) := by have := Hn.out; omega
                have f6 : ((en : Nat) : Int) < ((b : Nat) : Int) := by have := Hn.out; omega
                have hc1 := Hrt.out wr HR.out (by omega) (by have := Hn.out; omega)
                go_wp2_with fail
                refine hc1.mono ?_
                rintro e w1 ⟨rfl, hg1, R1⟩
                have HW1 : Hid (W0.grownBy w1 (some bl) ∧ Rw w1 bl N D1) := ⟨grow_trans Hg.out hg1, R1⟩
                clear hc1 hg1 R1 Hg HR
                have HW2 : Hid (W0.grownBy w1 (some bl) ∧ Rw w1 bl N D1 ∧ Srt κ D1 D1 (o + a) (o + mid)) := ⟨HW1.out.1, HW1.out.2, Srt.id (by
                  rcases (show s = a ∨ s = mid by omega) with h | h
                  · have := HA.out.2.1; rwa [h] at this
                  · have := HA.out.1; rwa [h] at this)⟩
                clear HW1
                have C1 : Asc κ D1 (o + mid) (o + en) := fun x y h1 h2 h3 => by rw [HW2.out.2.2.out x (.inr h1), HW2.out.2.2.out y (.inr (by omega))]; exact HA.out.2.2.1 x y h1 h2 h3
                have C2 : Asc κ D1 (o + en) (o + b) := fun x y h1 h2 h3 => by have := Hn.out; rw [HW2.out.2.2.out x (.inr (by omega)), HW2.out.2.2.out y (.inr (by omega))]; exact HA.out.2.2.2.1 x y h1 h2 h3
                have hc3 := HI.out mid en b D1 w1 (by omega) HW2.out.1 (by have := Hn.out; omega) (by have := Hn.out; omega) hb HW2.out.2.1 (fun x h1 h2 => (HW2.out.2.2.okk (l := o + a) (r := o + b) (Nat.le_refl _) (by omega) HA.out.2.2.2.2.2.1) x (by omega) h2) C1 C2
                clear C1 C2
                go_wp2_with fail
                refine hc3.mono ?_
                rintro e w3 ⟨rfl, hg3, D3, R3, S3⟩
                clear hc3
                go_wp2_with fail
                go_end0
                exact ⟨rfl, hg3, D3, R3, Srt.join (by omega) (by omega) hpm.out.1 hpm.out.2 HA.out.2.2.2.2.1 HW2.out.2.2 S3⟩
              · have f1 : ((s : Nat) : Int) < ((m : Nat) : Int) := by have := Hn.out; omega
                have f2 : ((m : Nat) : Int) < ((en : Nat) : Int) := by have := Hn.out; omega
                have f3 : ¬ ((a : Nat) : Int) < ((s : Nat) : Int) := by have := Hn.out; omega
                have f4 : ((s : Nat) : Int) < ((mid : Nat) : Int) := by have := Hn.out; omega
                have f5 : ((mid : Nat) : Int) < ((en : Nat) : Int) := by have := Hn.out; omega
                have f6 : ¬ ((en : Nat) : Int) < ((b : Nat) : Int) := by have := Hn.out; omega
                have hc1 := Hrt.out wr HR.out (by omega) (by have := Hn.out; omega)
                go_wp2_with fail
                refine hc1.mono ?_
                rintro e w1 ⟨rfl, hg1, R1⟩
                have HW1 : Hid (W0.grownBy w1 (some bl) ∧ Rw w1 bl N D1) := ⟨grow_trans Hg.out hg1, R1⟩
                clear hc1 hg1 R1 Hg HR
                have HW2 : Hid (W0.grownBy w1 (some bl) ∧ Rw w1 bl N D1 ∧ Srt κ D1 D1 (o + a) (o + mid)) := ⟨HW1.out.1, HW1.out.2, Srt.id (by
                  rcases (show s = a ∨ s = mid by omega) with h | h
                  · have := HA.out.2.1; rwa [h] at this
                  · have := HA.out.1; rwa [h] at this)⟩
                clear HW1
                have C1 : Asc κ D1 (o + mid) (o + en) := fun x y h1 h2 h3 => by rw [HW2.out.2.2.out x (.inr h1), HW2.out.2.2.out y (.inr (by omega))]; exact HA.out.2.2.1 x y h1 h2 h3
                have C2 : Asc κ D1 (o + en) (o + b) := fun x y h1 h2 h3 => by have := Hn.out; rw [HW2.out.2.2.out x (.inr (by omega)), HW2.out.2.2.out y (.inr (by omega))]; exact HA.out.2.2.2.1 x y h1 h2 h3
                have S3 : Srt κ D1 D1 (o + mid) (o + b) := Srt.id (by
                  have := Hn.out
                  rcases (show en = mid ∨ en = b by omega) with h | h
                  · rwa [h] at C2
                  · rwa [h] at C1)
                have HS3 : Hid _ := S3
                clear C1 C2 S3
                go_wp2_with fail
                go_end0
                exact ⟨rfl, HW2.out.1, D1, HW2.out.2.1, Srt.join (by omega) (by omega) hpm.out.1 hpm.out.2 HA.out.2.2.2.2.1 HW2.out.2.2 HS3.out⟩
          · have f1 : ¬ ((s : Nat) : Int) < ((m : Nat) : Int) := by have := Hn.out; omega
            have f3 : ((a : Nat) : Int) < ((s : Nat) : Int) := by have := Hn.out; omega
            have f4 : ((s : Nat) : Int) < ((mid : Nat) : Int) := by have := Hn.out; omega
            have f5 : ¬ ((mid : Nat) : Int) < ((en : Nat) : Int) := by have := Hn.out; omega
            have HW1 : Hid (W0.grownBy wr (some bl) ∧ Rw wr bl N D1) := ⟨Hg.out, by rw [HA.out.2.2.2.2.2.2 (by omega)]; exact HR.out⟩
            clear Hg HR
            have hc2 := HI.out a s mid D1 wr (by omega) HW1.out.1 (by omega) (by omega) (by omega) HW1.out.2 (fun x h1 h2 => HA.out.2.2.2.2.2.1 x h1 (by omega)) HA.out.1 HA.out.2.1
            go_wp2_with fail
            refine hc2.mono ?_
            rintro e w2 ⟨rfl, hg2, D2, R2, S2⟩
            have HW2 : Hid (W0.grownBy w2 (some bl) ∧ Rw w2 bl N D2 ∧ Srt κ D1 D2 (o + a) (o + mid)) := ⟨hg2, R2, S2⟩
            clear hc2 hg2 R2 S2 HW1
            have C1 : Asc κ D2 (o + mid) (o + en) := fun x y h1 h2 h3 => by rw [HW2.out.2.2.out x (.inr h1), HW2.out.2.2.out y (.inr (by omega))]; exact HA.out.2.2.1 x y h1 h2 h3
            have C2 : Asc κ D2 (o + en) (o + b) := fun x y h1 h2 h3 => by have := Hn.out; rw [HW2.out.2.2.out x (.inr (by omega)), HW2.out.2.2.out y (.inr (by omega))]; exact HA.out.2.2.2.1 x y h1 h2 h3
            have S3 : Srt κ D2 D2 (o + mid) (o + b) := Srt.id (by
              have := Hn.out
              rcases (show en = mid ∨ en = b by omega) with h | h
              · rwa [h] at C2
              · rwa [h] at C1)
            have HS3 : Hid _ := S3
            clear C1 C2 S3
            go_wp2_with fail
            go_end0
            exact ⟨rfl, HW2.out.1, D2, HW2.out.2.1, Srt.join (by omega) (by omega) hpm.out.1 hpm.out.2 HA.out.2.2.2.2.1 HW2.out.2.2 HS3.out⟩
        · by_cases c2 : s < m
          · have f1 : ((s : Nat) : Int) < ((m : Nat) : Int) := by have := Hn.out; omega
            have f2 : ¬ ((m : Nat) : Int) < ((en : Nat) : Int) := by have := Hn.out; omega
            have f3 : ((a : Nat) : Int) < ((s : Nat) : Int) := by have := Hn.out; omega
            have f4 : ¬ ((s : Nat) : Int) < ((mid : Nat) : Int) := by have := Hn.out; omega
            have f5 : ((mid : Nat) : Int) < ((en : Nat) : Int) := by have := Hn.out; omega
            have f6 : ((en : Nat) : Int) < ((b : Nat) : Int) := by have := Hn.out; omega
            have HW1 : Hid (W0.grownBy wr (some bl) ∧ Rw wr bl N D1) := ⟨Hg.out, by rw [HA.out.2.2.2.2.2.2 (by omega)]; exact HR.out⟩
            clear Hg HR
            have HW2 : Hid (W0.grownBy wr (some bl) ∧ Rw wr bl N D1 ∧ Srt κ D1 D1 (o + a) (o + mid)) := ⟨HW1.out.1, HW1.out.2, Srt.id (by
              rcases (show s = a ∨ s = mid by omega) with h | h
              · have := HA.out.2.1; rwa [h] at this
              · have := HA.out.1; rwa [h] at this)⟩
            clear HW1
            have C1 : Asc κ D1 (o + mid) (o + en) := fun x y h1 h2 h3 => by rw [HW2.out.2.2.out x (.inr h1), HW2.out.2.2.out y (.inr (by omega))]; exact HA.out.2.2.1 x y h1 h2 h3
            have C2 : Asc κ D1 (o + en) (o + b) := fun x y h1 h2 h3 => by have := Hn.out; rw [HW2.out.2.2.out x (.inr (by omega)), HW2.out.2.2.out y (.inr (by omega))]; exact HA.out.2.2.2.1 x y h1 h2 h3
            have hc3 := HI.out mid en b D1 wr (by omega) HW2.out.1 (by have := Hn.out; omega) (by have := Hn.out; omega) hb HW2.out.2.1 (fun x h1 h2 => (HW2.out.2.2.okk (l := o + a) (r := o + b) (Nat.le_refl _) (by omega) HA.out.2.2.2.2.2.1) x (by omega) h2) C1 C2
            clear C1 C2
            go_wp2_with fail
            refine hc3.mono ?_
            rintro e w3 ⟨rfl, hg3, D3, R3, S3⟩
            clear hc3
            go_wp2_with fail
            go_end0
            exact ⟨rfl, hg3, D3, R3, Srt.join (by omega) (by omega) hpm.out.1 hpm.out.2 HA.out.2.2.2.2.1 HW2.out.2.2 S3⟩
          · have f1 : ¬ ((s : Nat) : Int) < ((m : Nat) : Int) := by have := Hn.out; omega
            have f3 : ((a : Nat) : Int) < ((s : Nat) : Int) := by have := Hn.out; omega
            have f4 : ¬ ((s : Nat) : Int) < ((mid : Nat) : Int) := by have := Hn.out; omega
            have f5 : ¬ ((mid : Nat) : Int) < ((en : Nat) : Int) := by have := Hn.out; omega
            have HW1 : Hid (W0.grownBy wr (some bl) ∧ Rw wr bl N D1) := ⟨Hg.out, by rw [HA.out.2.2.2.2.2.2 (by omega)]; exact HR.out⟩
            clear Hg HR
            have HW2 : Hid (W0.grownBy wr (some bl) ∧ Rw wr bl N D1 ∧ Srt κ D1 D1 (o + a) (o + mid)) := ⟨HW1.out.1, HW1.out.2, Srt.id (by
              rcases (show s = a ∨ s = mid by omega) with h | h
              · have := HA.out.2.1; rwa [h] at this
              · have := HA.out.1; rwa [h] at this)⟩
            clear HW1
            have C1 : Asc κ D1 (o + mid) (o + en) := fun x y h1 h2 h3 => by rw [HW2.out.2.2.out x (.inr h1), HW2.out.2.2.out y (.inr (by omega))]; exact HA.out.2.2.1 x y h1 h2 h3
            have C2 : Asc κ D1 (o + en) (o + b) := fun x y h1 h2 h3 => by have := Hn.out; rw [HW2.out.2.2.out x (.inr (by omega)), HW2.out.2.2.out y (.inr (by omega))]; exact HA.out.2.2.2.1 x y h1 h2 h3
            have S3 : Srt κ D1 D1 (o + mid) (o + b) := Srt.id (by
              have := Hn.out
              rcases (show en = mid ∨ en = b by omega) with h | h
              · rwa [h] at C2
              · rwa [h] at C1)
            have HS3 : Hid _ := S3
            clear C1 C2 S3
            go_wp2_with fail
            go_end0
            exact ⟨rfl, HW2.out.1, D1, HW2.out.2.1, Srt.join (by omega) (by omega) hpm.out.1 hpm.out.2 HA.out.2.2.2.2.1 HW2.out.2.2 HS3.out⟩

/-- symMerge, at whatever length -/
theorem sym_any (bl o len cap N g : Nat) (cb : Array Value) (κ : Int → Int) (ok : Int → Prop) (W0 : World) (eg : ∀ args w, (callFunc g args).run Ybaf.prog w = .ok (.enter g args) w)
    (hc : Cm W0 bl g cb κ ok) (hN : o + len ≤ N) (hlen : len ≤ 10000) (sz : Nat) : SymOK bl o len cap N g cb κ ok W0 sz := by
  induction sz with
  | zero => intro a m b D W h; omega
  | succ z ih =>
    intro a m b D W hz hW ham hmb hb R hok hA hB
    by_cases h1 : m = a + 1
    · subst h1
      have := sym_left bl o len cap N a b g cb κ ok D W0 W eg hc hW hN hmb hb hlen R hok hB
      rwa [show (a : Int) + 1 = ((a + 1 : Nat) : Int) by omega] at this
    · by_cases h2 : b = m + 1
      · subst h2
        have := sym_right bl o len cap N a m g cb κ ok D W0 W eg hc hW hN (by omega) hb hlen R hok hA
        rwa [show (m : Int) + 1 = ((m + 1 : Nat) : Int) by omega] at this
      · exact sym_gen bl o len cap N a m b g cb κ ok D W0 W eg hc hW hN (by omega) (by omega) hb hlen R hok hA hB (fun a' m' b' D' W' h => ih a' m' b' D' W' (by omega))
end Go.Proofs.YbulkcuegFmt
