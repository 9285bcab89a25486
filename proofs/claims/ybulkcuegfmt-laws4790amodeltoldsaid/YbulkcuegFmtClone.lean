import Derived.Test.YbulkcuegFmtRow
import Derived.Test.YbulkcuegFmtShelf
namespace Go.Proofs.YbulkcuegFmt
open Go.RowKit

theorem info43 : (Ybaf.prog.info? 43).map (fun i => (i.zero, i.size, i.bytes)) = some (some (.int .u16 0), 1, 2) := by kernel_rfl
theorem info29 : (Ybaf.prog.info? 29).map (fun i => (i.zero, i.size, i.bytes)) = some (some (.agg #[.string ⟨#[]⟩]), 1, 16) := by kernel_rfl
theorem info129 : (Ybaf.prog.info? 129).map (fun i => (i.zero, i.size, i.bytes)) = some (some (.agg #[.string ⟨#[]⟩, .int .u16 0, .int .i64 0, .int .u8 0, .int .u8 0, .int .i64 0, .int .i64 0, .int .i64 0, .bool false, .bool false]), 10, 72) := by kernel_rfl

theorem cloneNil20 (n c : Nat) (w : World) : Calls Ybaf.prog 20 #[.slice none n c] w fun e w' => e = .returned (.slice none 0 0) ∧ w' = w := AnyE.slices_Clone_nil Ybaf.cloneL20 n c w
theorem cloneNil22 (n c : Nat) (w : World) : Calls Ybaf.prog 22 #[.slice none n c] w fun e w' => e = .returned (.slice none 0 0) ∧ w' = w := AnyE.slices_Clone_nil Ybaf.cloneL22 n c w
theorem cloneNil23 (n c : Nat) (w : World) : Calls Ybaf.prog 23 #[.slice none n c] w fun e w' => e = .returned (.slice none 0 0) ∧ w' = w := AnyE.slices_Clone_nil Ybaf.cloneL23 n c w
theorem cloneNil24 (n c : Nat) (w : World) : Calls Ybaf.prog 24 #[.slice none n c] w fun e w' => e = .returned (.slice none 0 0) ∧ w' = w := AnyE.slices_Clone_nil Ybaf.cloneL24 n c w
theorem cloneNil32 (n c : Nat) (w : World) : Calls Ybaf.prog 32 #[.slice none n c] w fun e w' => e = .returned (.slice none 0 0) ∧ w' = w := AnyE.slices_Clone_nil Ybaf.cloneL32 n c w

theorem cloneAct (b off n c : Nat) (news : List Value) (w : World) (hl : news.length = n) (hn : n ≤ 10000) (hc : ∀ j u, news[j]? = some u → w.cell? ⟨b, off + j, none⟩ = some u) (h1 : ∀ u ∈ news, u.oneCell' = true) :
    Calls Ybaf.prog 20 #[.slice (some ⟨b, off, none⟩) n c] w fun e w' => ∃ v', e = .returned v' ∧ w'.ownsRow w.heap.size 43 1 v' n news ∧ v' ≠ .slice none 0 0 ∧ Below w.heap.size w w' := by
  obtain ⟨i0, hi, hz0, hz1, hz2⟩ := info_parts info43
  exact AnyE.slices_Clone Ybaf.cloneL20 i0 _ 1 2 hi hz0 hz1 hz2 rfl (by omega) Ybaf.sizeOf43 b off n c news w (by omega) (by unfold maxLen; omega) (by omega) hc h1
theorem clonePlmn (b off n c : Nat) (news : List Value) (w : World) (hl : news.length = n) (hn : n ≤ 10000) (hc : ∀ j u, news[j]? = some u → w.cell? ⟨b, off + j, none⟩ = some u) (h1 : ∀ u ∈ news, u.oneCell' = true) :
    Calls Ybaf.prog 22 #[.slice (some ⟨b, off, none⟩) n c] w fun e w' => ∃ v', e = .returned v' ∧ w'.ownsRow w.heap.size 29 1 v' n news ∧ v' ≠ .slice none 0 0 ∧ Below w.heap.size w w' := by
  obtain ⟨i0, hi, hz0, hz1, hz2⟩ := info_parts info29
  exact AnyE.slices_Clone Ybaf.cloneL22 i0 _ 1 16 hi hz0 hz1 hz2 rfl (by omega) Ybaf.sizeOf29 b off n c news w (by omega) (by unfold maxLen; omega) (by omega) hc h1
theorem cloneCand (b off n c : Nat) (news : List Value) (w : World) (hl : news.length = n * 10) (hn : n ≤ 10000) (hc : ∀ j u, news[j]? = some u → w.cell? ⟨b, off + j, none⟩ = some u) (h1 : ∀ u ∈ news, u.oneCell' = true) :
    Calls Ybaf.prog 28 #[.slice (some ⟨b, off, none⟩) n c] w fun e w' => ∃ v', e = .returned v' ∧ w'.ownsRow w.heap.size 129 10 v' n news ∧ v' ≠ .slice none 0 0 ∧ Below w.heap.size w w' := by
  obtain ⟨i0, hi, hz0, hz1, hz2⟩ := info_parts info129
  exact AnyE.slices_Clone Ybaf.cloneL28 i0 _ 10 72 hi hz0 hz1 hz2 rfl (by omega) Ybaf.sizeOf129 b off n c news w hl (by unfold maxLen; omega) (by omega) hc h1
end Go.Proofs.YbulkcuegFmt
