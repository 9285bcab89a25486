import Derived.Test.YbulkcueuDoorRows
import Derived.Test.YbulkcueuDoorShelf
import Derived.WalkKit
import Derived.WalkSpells
import Derived.WalkLawsBesides
import Derived.Lib.PathFns
import Derived.Deep.DeepCutAuto
import Derived.Deep.CutBlock
namespace Go.Proofs.YbulkcueuDoor
open Go.RowKit Go.Lib

/-! ### zzs4791cbase computes Pa.base: the plain part -/
theorem trim_snoc (l : List UInt8) (k : Nat) (h : 1 ≤ k) (hl : l.length = k) (hb : l[k - 1]? = some 47) : Pa.trimSlashes (l.take (k - 1)) = Pa.trimSlashes l := by
  have e : l = l.take (k - 1) ++ [47] := by
    have := List.take_append_drop (k - 1) l
    conv => lhs; rw [← this]
    congr 1
    rw [List.drop_eq_getElem_cons (by omega), List.drop_eq_nil_of_le (by omega)]
    rw [List.getElem?_eq_getElem (by omega)] at hb
    simpa using hb
  conv => rhs; rw [e]
  simp [Pa.trimSlashes]
theorem trim_stop (l : List UInt8) (k : Nat) (b : UInt8) (h : 1 ≤ k) (hl : l.length = k) (hb : l[k - 1]? = some b) (hn : b ≠ 47) : Pa.trimSlashes l = l := by
  have e : l = l.take (k - 1) ++ [b] := by
    have := List.take_append_drop (k - 1) l
    conv => lhs; rw [← this]
    congr 1
    rw [List.drop_eq_getElem_cons (by omega), List.drop_eq_nil_of_le (by omega)]
    rw [List.getElem?_eq_getElem (by omega)] at hb
    simpa using hb
  conv => lhs; rw [e]
  conv => rhs; rw [e]
  simp [Pa.trimSlashes, hn]

set_option maxHeartbeats 400000 in
theorem base_any (s : ByteArray) (w : World) (hs : s.size ≤ 9223372036854775807) :
    Calls Ybad.prog 17 #[.string s] w fun e w' => e = .returned (.string ⟨(Pa.base s.data.toList).toArray⟩) ∧ w = w' := by
  generalize hr0 : Pa.base s.data.toList = r
  have hr : Hid (Pa.base s.data.toList = r) := hr0
  clear hr0
  by_cases h0 : s.toList.isEmpty = true
  · go_enter Ybad.func17, Ybad.ntmps17
    go_wp2
    go_ret
    exact ⟨by rw [← hr.out, Pa.base_nil s h0]; rfl, rfl⟩
  · have hne : s.toList.isEmpty = false := by simpa using h0
    clear h0
    go_enter Ybad.func17, Ybad.ntmps17
    go_upto_block 0 with fail
    go_cut [0] (fun v wx => ∃ t : ByteArray, v = .string t ∧ Hid (t.data.toList = Pa.trimSlashes s.data.toList) ∧ t.size ≤ s.size ∧ w = wx)
    case first =>
      go_wp2_with fail
      go_loop [0] (fun v => ∃ t : ByteArray, v = .string t ∧ Hid (Pa.trimSlashes t.data.toList = Pa.trimSlashes s.data.toList) ∧ t.size ≤ s.size) (fun v => Pa.strSize v)
      case atStart => exact ⟨s, rfl, rfl, Nat.le_refl _⟩
      case round =>
        obtain ⟨t, rfl, ht, hts⟩ := hrel
        by_cases hk : 0 < t.size
        · have hb := Pa.at_eq t (t.size - 1) (by omega)
          by_cases hc : ((t[t.size - 1]'(by omega)).toNat : Int) = 47
          · have HB : Hid (t.data.toList[t.size - 1]? = some 47) := by
              show _ = _
              rw [hb]; congr 1; apply UInt8.toNat_inj.1; exact_mod_cast hc
            have hcb : ((((t[t.size - 1]'(by omega)).toNat : Int)) == 47) = true := by simp [hc]
            have hc1 : (0 : Int) ≤ (t.size : Int) - 1 := by omega
            clear hb hc
            go_wp2_with fail
            refine ⟨⟨t.extract 0 (t.size - 1), rfl, ?_, ?_⟩, ?_⟩
            · show _ = _
              rw [Pa.extract_upto_list, trim_snoc _ t.size hk (by rw [← Lib.size_eq]) HB.out]
              exact ht.out
            · rw [Pa.extract_upto_size _ _ (by omega)]; omega
            · show (t.extract 0 (t.size - 1)).size < t.size
              rw [Pa.extract_upto_size _ _ (by omega)]; omega
          · have hcb : ((((t[t.size - 1]'(by omega)).toNat : Int)) == 47) = false := by simp [hc]
            have HT : Hid (t.data.toList = Pa.trimSlashes s.data.toList) := by
              show _ = _
              rw [← ht.out]
              refine (trim_stop _ t.size _ hk (by rw [← Lib.size_eq]) hb ?_).symm
              intro e; apply hc; rw [e]; rfl
            have hc1 : (0 : Int) ≤ (t.size : Int) - 1 := by omega
            clear hb hc
            go_wp2_with fail
            go_meet
            exact ⟨t, rfl, HT, hts, rfl⟩
        · have HT : Hid (t.data.toList = Pa.trimSlashes s.data.toList) := by
            show _ = _
            rw [← ht.out, Pa.nil_of_size t hk]; rfl
          go_wp2_with fail
          go_meet
          exact ⟨t, rfl, HT, hts, rfl⟩
    case rest =>
      obtain ⟨t, rfl, HT, hts, rfl⟩ := hcut
      obtain ⟨d, hd⟩ : ∃ d : List UInt8, d = (Pa.split t.data.toList).2 := ⟨_, rfl⟩
      have HD : Hid (d = (Pa.split t.data.toList).2) := hd
      have HB : Hid (Pa.base s.data.toList = if d = [] then [47] else d) := by
        show _ = _
        unfold Pa.base
        rw [← HT.out, ← hd, if_neg]
        intro e
        rw [Lib.toList_data, e] at hne
        simp at hne
      clear hd
      go_upto_block 2 with fail
      go_cut [0, 3] (fun v _ wx => ∃ u : ByteArray, v = .string u ∧ Hid (u.data.toList = d) ∧ w = wx)
      case first =>
        go_wp2_with fail
        go_loop [0, 3] (fun v i => v = .string t ∧ ∃ j : Int, i = .int .i64 j ∧ -1 ≤ j ∧ j < t.size ∧ Hid (∀ m : Nat, j < m → t.data.toList[m]? ≠ some 47)) (fun _ i => (RowKit.intOf i + 1).toNat)
        case atStart => exact ⟨rfl, _, rfl, by omega, by omega, fun m hm => by rw [List.getElem?_eq_none (by rw [← Lib.size_eq]; omega)]; simp⟩
        case round =>
          obtain ⟨rfl, j, rfl, hj0, hj1, hm⟩ := hrel
          by_cases hj : j < 0
          · have HU : Hid (t.data.toList = d) := by
              show _ = _
              rw [HD.out]
              rcases Pa.lastIndexByte_spec t.data.toList 47 with ⟨h, _⟩ | ⟨i, _, h, _⟩
              · simp [Pa.split, h]
              · exact absurd h (hm.out i (by omega))
            clear hm
            go_wp2_with fail
            go_meet
            exact ⟨t, rfl, HU, rfl⟩
          · obtain ⟨k, rfl⟩ := Int.eq_ofNat_of_zero_le (show 0 ≤ j by omega)
            have hkt : k < t.size := by omega
            have hb := Pa.at_eq t k hkt
            by_cases hc : ((t[k]'hkt).toNat : Int) = 47
            · have hcb : ((((t[k]'hkt).toNat : Int)) == 47) = true := by simp [hc]
              have HU : Hid ((t.extract (k + 1) t.size).data.toList = d) := by
                show _ = _
                rw [HD.out, Pa.extract_from]
                have e : Pa.lastIndexByte t.data.toList 47 = k := by
                  unfold Pa.lastIndexByte
                  refine Pa.lastIdx_eq_of _ _ k _ (by rw [← Lib.size_eq]; exact hkt) ?_ (fun m h1 _ => hm.out m (by omega))
                  rw [hb]; congr 1; apply UInt8.toNat_inj.1; exact_mod_cast hc
                simp only [Pa.split, e]
                rfl
              clear hm hb hc
              go_wp2_with fail
              go_meet
              exact ⟨_, rfl, HU, rfl⟩
            · have hcb : ((((t[k]'hkt).toNat : Int)) == 47) = false := by simp [hc]
              have HM : Hid (∀ m : Nat, (k : Int) - 1 < m → t.data.toList[m]? ≠ some 47) := by
                intro m h1
                by_cases e : m = k
                · subst e
                  rw [hb]
                  intro h
                  apply hc
                  rw [Option.some.inj h]; rfl
                · exact hm.out m (by omega)
              clear hm hb hc
              go_wp2_with fail
              exact ⟨⟨rfl, _, rfl, by omega, by omega, HM⟩, by simp [RowKit.intOf]⟩
      case rest =>
        obtain ⟨u, rfl, HU, rfl⟩ := hcut
        have hf := Pa.base_fin _ _ u HB.out HU.out
        by_cases he : u.toList.isEmpty = true
        · have HF : Hid (Pa.base s.data.toList = [47]) := hf.1 he
          clear hf
          go_wp2_with fail
          go_ret
          exact ⟨by rw [← hr.out, HF.out]; rfl, rfl⟩
        · have he' : u.toList.isEmpty = false := by simpa using he
          have HF : Hid ((⟨(Pa.base s.data.toList).toArray⟩ : ByteArray) = u) := hf.2 he'
          clear hf he
          go_wp2_with fail
          go_ret
          exact ⟨by rw [← hr.out, HF.out]; rfl, rfl⟩
end Go.Proofs.YbulkcueuDoor
