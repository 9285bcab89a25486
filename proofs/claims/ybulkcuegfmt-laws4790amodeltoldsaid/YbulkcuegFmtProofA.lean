import Derived.Test.YbulkcuegFmtCards
import Derived.Test.YbulkcuegFmtOpen
import Derived.ProofKit
import Derived.OpenShut
import Derived.Carry
import Derived.Stop.JoinedAt
import Derived.Stop.JoinedTold
import Derived.SevenToldRow
namespace Go.Proofs.YbulkcuegFmt.lawS4790AModel
open Go.ChangeShapes Go.WideShapes Go.ChangeAt Go.RowKit Go.Kit
open Go.Extern.Stop Go.Stop Go.Extern

theorem own : ownKnob Ybaf.prog.godebug = none := by kernel_rfl
theorem laidOut : laidOutB Ybaf.prog = true := by kernel_rfl

/-- the specification, in the builder's form -/
abbrev spec : OpenSpec := OpenSpec.ofChange Rows.lawS4790AModelSpec

set_option maxRecDepth 100000 in
theorem lifted (os : Os) (started : os.Started) (H : Type) (enc : TypeId × Value → H) :
    ReturnsInTold none {} Ybaf.checked os 3 .any Input.okWide (spec.preRow enc Ybaf.prog Ybaf.f3 [] false []) (fun F => (spec.at F).post enc Ybaf.prog Ybaf.f3 false true false false) (aloneAtReturn Ybaf.prog) nothingAlways := by
  refine returnsInTold_of_row (C := Ybaf.checked) (s := spec) (by kernel_rfl) own started (by kernel_rfl) Ybaf.func3
    (OpenSpec.witness_stopped (enc := enc) (C := Ybaf.checked) false ⟨#[], #[.slice none 0 0, .slice none 0 0, .slice none 0 0, .slice none 0 0, .int .u8 0, .slice none 0 0, .bool false, .slice none 0 0], []⟩ 8 (by kernel_rfl) (by kernel_rfl) (by kernel_rfl) (by kernel_rfl)) ?_
  intro F W base args ds gs before _ _ hval0 hW _ _ _ _ _
  have hval : ∀ (j : Nat) t v, Ybaf.f3.params[j]? = some t → args[j]? = some v → Value.okWide Ybaf.prog W .any base t v := hval0
  have hW' := hW
  obtain ⟨p, q, hA0, hV, rfl, hfz, hnd⟩ := hW
  have hA : DataW.TrodAll enc Ybaf.prog W 0 (fun _ => true) true Ybaf.f3.params.toList args.toList ds p := hA0
  rw [Ybaf.params3] at hA hval
  obtain ⟨v0, vs0, d0, ds0, p0, q0, hargs, rfl, rfl, h0, r0⟩ := trodAll_cons hA
  obtain ⟨v1, vs1, d1, ds1, p1, q1, rfl, rfl, rfl, h1, r1⟩ := trodAll_cons r0
  obtain ⟨v2, vs2, d2, ds2, p2, q2, rfl, rfl, rfl, h2, r2⟩ := trodAll_cons r1
  obtain ⟨v3, vs3, d3, ds3, p3, q3, rfl, rfl, rfl, h3, r3⟩ := trodAll_cons r2
  obtain ⟨v4, vs4, d4, ds4, p4, q4, rfl, rfl, rfl, h4, r4⟩ := trodAll_cons r3
  obtain ⟨v5, vs5, d5, ds5, p5, q5, rfl, rfl, rfl, h5, r5⟩ := trodAll_cons r4
  obtain ⟨v6, vs6, d6, ds6, p6, q6, rfl, rfl, rfl, h6, r6⟩ := trodAll_cons r5
  obtain ⟨v7, vs7, d7, ds7, p7, q7, rfl, rfl, rfl, h7, r7⟩ := trodAll_cons r6
  obtain ⟨rfl, rfl, rfl⟩ := trodAll_nil r7
  obtain rfl : args = #[v0, v1, v2, v3, v4, v5, v6, v7] := by cases args; simp_all
  obtain ⟨rfl, rfl⟩ := trodVars_none hV
  have k0 := h0
  have k1 := h1
  have k2 := h2
  have k3 := h3
  have k5 := h5
  have k7 := h7
  have lt0 : ∀ x ∈ p0, x.block < W.heap.size := by obtain ⟨m, hm⟩ := k0; exact DataW.trod_lt m _ _ _ hm
  have lt1 : ∀ x ∈ p1, x.block < W.heap.size := by obtain ⟨m, hm⟩ := k1; exact DataW.trod_lt m _ _ _ hm
  have lt2 : ∀ x ∈ p2, x.block < W.heap.size := by obtain ⟨m, hm⟩ := k2; exact DataW.trod_lt m _ _ _ hm
  have lt3 : ∀ x ∈ p3, x.block < W.heap.size := by obtain ⟨m, hm⟩ := k3; exact DataW.trod_lt m _ _ _ hm
  have lt5 : ∀ x ∈ p5, x.block < W.heap.size := by obtain ⟨m, hm⟩ := k5; exact DataW.trod_lt m _ _ _ hm
  have lt7 : ∀ x ∈ p7, x.block < W.heap.size := by obtain ⟨m, hm⟩ := k7; exact DataW.trod_lt m _ _ _ hm
  have o7 := hval 7 24 v7 rfl rfl
  obtain ⟨oa, n, oc, rfl⟩ := okWide_slice Ybaf.underlying22 (hval 0 22 v0 rfl rfl)
  obtain ⟨xa, nx, xc, rfl⟩ := okWide_slice Ybaf.underlying23 (hval 1 23 v1 rfl rfl)
  obtain ⟨ya, ny, yc, rfl⟩ := okWide_slice Ybaf.underlying23 (hval 2 23 v2 rfl rfl)
  obtain ⟨ga, ng, gc, rfl⟩ := okWide_slice Ybaf.underlying23 (hval 3 23 v3 rfl rfl)
  obtain ⟨ea, ne, ec, rfl⟩ := okWide_slice Ybaf.underlying23 (hval 5 23 v5 rfl rfl)
  obtain ⟨ra, nr, rc, rfl⟩ := okWide_slice Ybaf.underlying24 o7
  obtain ⟨m0, op, oA, oh, ol, O⟩ : n ≤ maxLen ∧ ∃ op oA oh ol, ObsR W oa n op oA oh ol := by
    obtain ⟨fuel, hf⟩ := h0
    exact open_obs hf
  obtain ⟨m1, xs, A⟩ : nx ≤ maxLen ∧ ∃ xs, U8R W xa nx xs := by
    obtain ⟨fuel, hf⟩ := h1
    exact open_u8s hf
  obtain ⟨m2, ys, C⟩ : ny ≤ maxLen ∧ ∃ xs, U8R W ya ny xs := by
    obtain ⟨fuel, hf⟩ := h2
    exact open_u8s hf
  obtain ⟨m3, gs', G⟩ : ng ≤ maxLen ∧ ∃ xs, U8R W ga ng xs := by
    obtain ⟨fuel, hf⟩ := h3
    exact open_u8s hf
  obtain ⟨m5, es, E⟩ : ne ≤ maxLen ∧ ∃ xs, U8R W ea ne xs := by
    obtain ⟨fuel, hf⟩ := h5
    exact open_u8s hf
  obtain ⟨m7, vals, R, rg⟩ : nr ≤ maxLen ∧ ∃ vals : Nat → Int, RowV W (.slice ra nr rc) nr (fun i => .int .u64 (vals i)) ∧ ∀ i, i < nr → 0 ≤ vals i ∧ vals i ≤ 18446744073709551615 := by
    obtain ⟨fuel, hf⟩ := h7
    exact open_u64s hf o7
  obtain ⟨a4, rfl, rfl, rfl, w4⟩ := open_int Ybaf.underlying5 (hval 4 5 v4 rfl rfl) h4
  obtain ⟨a6, rfl, rfl, rfl⟩ := open_bool Ybaf.underlying4 (hval 6 4 v6 rfl rfl) h6
  clear hA0 hval0
  have hwalk : Calls Ybaf.prog 3 #[.slice oa n oc, .slice xa nx xc, .slice ya ny yc, .slice ga ng gc, .int .u8 a4, .slice ea ne ec, .bool a6, .slice ra nr rc] W fun e w' => e = .returned (.bool true) ∧ Below W.heap.size W w' := by
    by_cases hsm : n ≤ 300 ∧ nx ≤ 300 ∧ ny ≤ 300 ∧ ng ≤ 300 ∧ ne ≤ 300 ∧ nr ≤ 300
    · obtain ⟨s0, s1, s2, s3, s4, s5⟩ := hsm
      exact law a6 a4 oa n oc xa nx xc ya ny yc ga ng gc ea ne ec ra nr rc op oA ol oh xs ys gs' es vals W O A C G E R rg s0 s1 s2 s3 s4 s5 (u8_wf w4)
    · exact law_big a6 a4 oa n oc xa nx xc ya ny yc ga ng gc ea ne ec ra nr rc W ⟨m0, m1, m2, m3, m5, m7⟩ (by omega)
  refine hwalk.mono fun e W' ⟨he, hg⟩ => ?_
  subst he
  exact ⟨_, rfl, _, _, _, [], _, [], hW', trodAll_mk1 (shut_bool Ybaf.underlying4 _), (trodAll_cons_mk (Below.trod laidOut (by kernel_rfl) (of_decide_eq_true (by kernel_rfl)) k0 hg lt0) (trodAll_cons_mk (Below.trod laidOut (by kernel_rfl) (of_decide_eq_true (by kernel_rfl)) k1 hg lt1) (trodAll_cons_mk (Below.trod laidOut (by kernel_rfl) (of_decide_eq_true (by kernel_rfl)) k2 hg lt2) (trodAll_cons_mk (Below.trod laidOut (by kernel_rfl) (of_decide_eq_true (by kernel_rfl)) k3 hg lt3) (trodAll_cons_mk (shut_int Ybaf.underlying5 w4) (trodAll_cons_mk (Below.trod laidOut (by kernel_rfl) (of_decide_eq_true (by kernel_rfl)) k5 hg lt5) (trodAll_cons_mk (shut_bool Ybaf.underlying4 _) (trodAll_cons_mk (Below.trod laidOut (by kernel_rfl) (of_decide_eq_true (by kernel_rfl)) k7 hg lt7) trodAll_mk0)))))))), rfl, hg.frame _, fun h => by cases h⟩

theorem stops : Ybaf.pinned.checked.prog.stops = ["fmt.errorf"] := by kernel_rfl
theorem stopKnobs : Ybaf.pinned.checked.prog.stopKnobs = [] := by kernel_rfl
theorem quiet (os : Os) : Stop.quiet Ybaf.pinned.checked.prog os := by
  intro k hk
  rw [stopKnobs] at hk
  cases hk

theorem proved : Rows.LawS4790AModelToldSaid :=
  Claim7.holds_of_told_any (s := spec) (c := Rows.lawS4790AModelRow) 3 Ybaf.f3 "fmt.errorf" [] [] (true, "66aeabd303cb2a295d41512542a8317b481347c731b1a2b34319f904c22ead5f") false false (by kernel_rfl) rfl rfl rfl laidOut (by kernel_rfl) rfl ⟨rfl, rfl, rfl, rfl, rfl, rfl, rfl⟩ rfl rfl (by kernel_rfl) (by kernel_rfl) Ybaf.func3 (by kernel_rfl)
    (of_decide_eq_true (by kernel_rfl)) (by unfold Func.isWrapper; first | (rw [if_pos (by decide +kernel)]; kernel_rfl) | (rw [if_neg (by decide +kernel)]; exact ⟨rfl, rfl⟩)) stops.symm rfl stopKnobs.symm (by kernel_rfl)
    (by kernel_rfl) (by kernel_rfl) (by kernel_rfl) (by kernel_rfl) (by kernel_rfl) (by kernel_rfl) (by kernel_rfl) (by kernel_rfl) (by kernel_rfl) rfl (by kernel_rfl) rfl rfl
    rfl rfl
    rfl (by kernel_rfl) (by kernel_rfl) (by kernel_rfl) (by decide) (by kernel_rfl)
    (OpenClaim.moreEntering_of (by kernel_rfl) (by kernel_rfl) (by kernel_rfl) (by kernel_rfl) (by kernel_rfl) (by kernel_rfl) (by kernel_rfl) (by kernel_rfl) (by kernel_rfl) (by kernel_rfl))
    ⟨_, WideRow.started_initial, quiet _⟩
    (fun os started _ H enc _ => lifted os started H enc)
end Go.Proofs.YbulkcuegFmt.lawS4790AModel
