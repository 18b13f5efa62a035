/-
  'Rows.FnFieldsMatchesSplitFlipSaid', proved: the frame after the guide's template; the walk out of SplitWalk; the arguments read behind the call as before by 'Below.trod'.
-/
import Derived.Test.Qxb6605882aSplitWalk
import Derived.Test.Qxb6605882aOpen
namespace Go.Proofs.Qxb6605882a.fnFieldsMatchesSplitFlip
open Go.ChangeShapes Go.WideShapes Go.ChangeAt Go.RowKit

theorem own : ownKnob Try.prog.godebug = none := by kernel_rfl
theorem laidOut : laidOutB Try.prog = true := by kernel_rfl

set_option maxRecDepth 100000 in
theorem lifted (os : Os) (started : os.Started) (H : Type) (enc : TypeId × Value → H) :
    ReturnsInHanded {} Try.checked os 5 .any (Rows.fnFieldsMatchesSplitFlipSpec.pre6 enc Try.prog Try.f5 Rows.fnFieldsMatchesSplitFlipRow.domain false) (Rows.fnFieldsMatchesSplitFlipSpec.post enc Try.prog Try.f5 false true false false) := by
  refine returnsInHanded_of_change (C := Try.checked) own started (by kernel_rfl) Try.func5
    (ChangeSpec.witness6 (enc := enc) (C := Try.checked) false ⟨#[], #[.slice none 0 0, .int .i64 0, .slice none 0 0, .slice none 0 0], []⟩ 8 (by kernel_rfl) (by kernel_rfl) (by kernel_rfl) (by kernel_rfl)) ?_
  intro W base args ds gs before hval0 hW hcnd _
  have hval : ∀ (j : Nat) t v, Try.f5.params[j]? = some t → args[j]? = some v → Value.okWide Try.prog W .any base t v := hval0
  have hW' := hW
  obtain ⟨p, q, hA0, hV, rfl, hfz, hnd⟩ := hW
  have hA : DataW.TrodAll enc Try.prog W 0 (fun _ => true) true Try.f5.params.toList args.toList ds p := hA0
  rw [Try.params5] at hA hval
  obtain ⟨v0, vs0, d0, ds0, p0, q0, hargs, rfl, rfl, h0, r0⟩ := trodAll_cons hA
  obtain ⟨v3, vs3, d3, ds3, p3, q3, rfl, rfl, rfl, h3, r3⟩ := trodAll_cons r0
  obtain ⟨v1, vs1, d1, ds1, p1, q1, rfl, rfl, rfl, h1, r1⟩ := trodAll_cons r3
  obtain ⟨v2, vs2, d2, ds2, p2, q2, rfl, rfl, rfl, h2, r2⟩ := trodAll_cons r1
  obtain ⟨rfl, rfl, rfl⟩ := trodAll_nil r2
  obtain rfl : args = #[v0, v3, v1, v2] := by cases args; simp_all
  obtain ⟨rfl, rfl⟩ := trodVars_none hV
  obtain ⟨a0, n0, c0, rfl⟩ := okWide_slice Try.underlying23 (hval 0 23 v0 rfl rfl)
  obtain ⟨x, rfl, rfl, rfl, wx⟩ := open_int Try.underlying3 (hval 1 3 v3 rfl rfl) h3
  obtain ⟨a1, n1, c1, rfl⟩ := okWide_slice Try.underlying24 (hval 2 24 v1 rfl rfl)
  obtain ⟨a2, n2, c2, rfl⟩ := okWide_slice Try.underlying24 (hval 3 24 v2 rfl rfl)
  clear hA0 hval0
  simp only [List.append_nil, List.nil_append] at hW'
  have hlt : ∀ x ∈ p0 ++ (p1 ++ p2), x.block < W.heap.size := fun x hx => by simpa using hW'.lt x hx
  obtain ⟨P, N, V, hr, l0, s0⟩ := open_reqsAt h0
  obtain ⟨K, hk, l1, s1⟩ := open_strsAt h1
  obtain ⟨L, hl, l2, s2⟩ := open_strsAt h2
  have hwalk : Calls Try.prog 5 #[.slice a0 n0 c0, .int .i64 x, .slice a1 n1 c1, .slice a2 n2 c2] W fun e w' => e = .returned (.bool true) ∧ Below W.heap.size W w' := by
    by_cases hg : n0 ≤ 65536 ∧ n1 ≤ 65536 ∧ n2 ≤ 65536
    · exact Split.main a0 a1 a2 n0 n1 n2 c0 c1 c2 x P N V K L W hr hk hl hg.1 hg.2.1 hg.2.2 s0 s1 s2
    · exact Split.big a0 a1 a2 n0 n1 n2 c0 c1 c2 x P N V K L W l0 l1 l2 hr hk hl hg
  refine hwalk.mono fun e W' ⟨he, hb⟩ => ?_
  subst he
  refine ⟨_, rfl, _, _, _, [], p0 ++ (p1 ++ p2), [], hW', (trodAll_cons_mk (shut_bool Try.underlying4 _) trodAll_mk0), ?_, rfl, hb.frame _, fun h => by cases h⟩
  have t0 := Below.trod laidOut (by kernel_rfl) (of_decide_eq_true (by kernel_rfl)) h0 hb (fun x hx => hlt x (by simp [hx]))
  have t1 := Below.trod laidOut (by kernel_rfl) (of_decide_eq_true (by kernel_rfl)) h1 hb (fun x hx => hlt x (by simp [hx]))
  have t2 := Below.trod laidOut (by kernel_rfl) (of_decide_eq_true (by kernel_rfl)) h2 hb (fun x hx => hlt x (by simp [hx]))
  have t := trodAll_cons_mk t0 (trodAll_cons_mk (shut_int Try.underlying3 wx) (trodAll_cons_mk t1 (trodAll_cons_mk t2 trodAll_mk0)))
  simp only [List.append_nil, List.nil_append] at t
  exact t

theorem over : Rows.fnFieldsMatchesSplitFlipRow.holds Try.pinned (OpenSpec.ofChange Rows.fnFieldsMatchesSplitFlipSpec) :=
  OpenClaim.holds_of_wide 5 Try.f5 rfl rfl rfl rfl rfl rfl rfl ⟨rfl, rfl, rfl, rfl, rfl⟩ rfl rfl rfl rfl rfl (by kernel_rfl) Try.func5 (by kernel_rfl)
    (of_decide_eq_true (by kernel_rfl)) (by unfold Func.isWrapper; first | (rw [if_pos (by decide +kernel)]; kernel_rfl) | (rw [if_neg (by decide +kernel)]; exact ⟨rfl, rfl⟩))
    (fun os started H enc _ => lifted os started H enc)

theorem proved : Rows.FnFieldsMatchesSplitFlipSaid :=
  over
#print axioms proved
end Go.Proofs.Qxb6605882a.fnFieldsMatchesSplitFlip
