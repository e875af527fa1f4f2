/-
  THE SHELL OF A PROOF OF 'Rows.LawS3817ATwiceSaid' ('example.com/spanwright/spanwright/pipeline.LawS3817ATwice'), WRITTEN BY PROGRAM (proof-skeleton.mjs) off the guide's own print for that function. Not trusted: Lean checks it.
  The walk is filled in by hand; all else is the guide's template at this function's number and types.
-/
import Derived.Test.YbulkcaaiRows
import Derived.Test.YbulkcaaiWalks
import Derived.WalkKit
import Derived.ProofKit
import Derived.OpenShut
import Derived.ShutString
namespace Go.Proofs.Ybulkcaai.lawS3817ATwice
open Go.ChangeShapes Go.WideShapes Go.ChangeAt Go.RowKit
open Go.ChangeMaps (open_string shut_string)
set_option linter.unusedVariables false      -- a walk need not use every 'w<i>' (that an integer argument fits its kind)

theorem own : ownKnob Yba.prog.godebug = none := by kernel_rfl

/-! ### STEP 1: THE WALK: the Go text returns true. 'Grown w w'': the world has at most new blocks (Derived/RowKit3.lean). Part the cases AHEAD of 'go_enter' where a test parts the walk; take each callee by a contract of your own. -/
set_option maxRecDepth 100000 in
theorem walk (a0 : Int) (a1 : Int) (a2 : Int) (a3 : Int) (w0 : (Lit.int .i64 a0).wf = true) (w1 : (Lit.int .i64 a1).wf = true) (w2 : (Lit.int .i64 a2).wf = true) (w3 : (Lit.int .i64 a3).wf = true) (w : World) :
    Calls Yba.prog 4 #[.int .i64 a0, .int .i64 a1, .int .i64 a2, .int .i64 a3] w fun e w' => e = .returned (.bool true) ∧ Grown w w' := by
  go_enter Yba.func4, Yba.ntmps4
  go_wp2_with fail
  refine (new_at a2 a3 0 0 0 _).mono ?_
  rintro e w1 ⟨rfl, hat, hg⟩
  go_wp2_with fail
  refine (opt_at w.heap.size a0 a2 a3 0 0 0 w _ hat hg).mono ?_
  rintro e w2 ⟨rfl, hc, hat2, hg2⟩
  clear hat hg
  go_wp2_with fail
  refine (clo_at w.heap.size w1.heap.size a0 a2 a3 0 0 0 w _ hat2 hc (Nat.le_refl _) hg2).mono ?_
  rintro e w3 ⟨rfl, hat3, hg3⟩
  clear hat2 hg2 hc
  generalize hM : (if 0 < a0 then a0 else a2) = M at hat3
  have HM : Hid _ := hM
  clear hM
  go_wp2_with fail
  refine (opt_at w.heap.size a1 M a3 0 0 0 w _ hat3 hg3).mono ?_
  rintro e w4 ⟨rfl, hc, hat4, hg4⟩
  clear hat3 hg3
  go_wp2_with fail
  refine (clo_at w.heap.size w3.heap.size a1 M a3 0 0 0 w _ hat4 hc (Nat.le_refl _) hg4).mono ?_
  rintro e w5 ⟨rfl, hat5, hg5⟩
  clear hat4 hg4 hc
  have h4 := hat5.cell4
  have hM := HM.out
  clear HM
  by_cases hn : 0 < a0
  · rw [if_pos hn] at hM
    subst hM
    by_cases hk : 0 < a1
    · rw [if_pos hk] at h4
      go_wp2_with fail
      refine (rest_at w.heap.size _ a3 0 0 0 _ hat5).mono ?_
      rintro e w6 ⟨rfl, rfl⟩
      go_wp2_with fail
      go_ret
      exact ⟨rfl, hg5⟩
    · rw [if_neg hk] at h4
      go_wp2_with fail
      refine (rest_at w.heap.size _ a3 0 0 0 _ hat5).mono ?_
      rintro e w6 ⟨rfl, rfl⟩
      go_wp2_with fail
      go_ret
      exact ⟨rfl, hg5⟩
  · rw [if_neg hn] at hM
    subst hM
    by_cases hk : 0 < a1
    · rw [if_pos hk] at h4
      go_wp2_with fail
      refine (rest_at w.heap.size _ a3 0 0 0 _ hat5).mono ?_
      rintro e w6 ⟨rfl, rfl⟩
      go_wp2_with fail
      go_ret
      exact ⟨rfl, hg5⟩
    · rw [if_neg hk] at h4
      go_wp2_with fail
      refine (rest_at w.heap.size _ a3 0 0 0 _ hat5).mono ?_
      rintro e w6 ⟨rfl, rfl⟩
      go_wp2_with fail
      go_ret
      exact ⟨rfl, hg5⟩

/-! ### THE ROW's STEP: WRITTEN OUT: LEAVE IT -/
set_option maxRecDepth 100000 in
theorem lifted (os : Os) (started : os.Started) (H : Type) (enc : TypeId × Value → H) :
    ReturnsInHanded {} Yba.checked os 4 .any (Rows.lawS3817ATwiceSpec.pre6 enc Yba.prog Yba.f4 Rows.lawS3817ATwiceRow.domain false) (Rows.lawS3817ATwiceSpec.post enc Yba.prog Yba.f4 false true false false) := by
  refine returnsInHanded_of_change (C := Yba.checked) own started (by kernel_rfl) Yba.func4
    (ChangeSpec.witness6 (enc := enc) (C := Yba.checked) false ⟨#[], #[.int .i64 0, .int .i64 0, .int .i64 0, .int .i64 0], []⟩ 8 (by kernel_rfl) (by kernel_rfl) (by kernel_rfl) (by kernel_rfl)) ?_
  intro W base args ds gs before hval0 hW hcnd _
  have hval : ∀ (j : Nat) t v, Yba.f4.params[j]? = some t → args[j]? = some v → Value.okWide Yba.prog W .any base t v := hval0
  have hW' := hW
  obtain ⟨p, q, hA0, hV, rfl, hfz, hnd⟩ := hW
  have hA : DataW.TrodAll enc Yba.prog W 0 (fun _ => true) true Yba.f4.params.toList args.toList ds p := hA0
  rw [Yba.params4] at hA hval
  obtain ⟨v0, vs0, d0, ds0, p0, q0, hargs, rfl, rfl, h0, r0⟩ := trodAll_cons hA
  obtain ⟨v1, vs1, d1, ds1, p1, q1, rfl, rfl, rfl, h1, r1⟩ := trodAll_cons r0
  obtain ⟨v2, vs2, d2, ds2, p2, q2, rfl, rfl, rfl, h2, r2⟩ := trodAll_cons r1
  obtain ⟨v3, vs3, d3, ds3, p3, q3, rfl, rfl, rfl, h3, r3⟩ := trodAll_cons r2
  obtain ⟨rfl, rfl, rfl⟩ := trodAll_nil r3
  obtain rfl : args = #[v0, v1, v2, v3] := by cases args; simp_all
  obtain ⟨rfl, rfl⟩ := trodVars_none hV
  obtain ⟨a0, rfl, rfl, rfl, w0⟩ := open_int Yba.underlying3 (hval 0 3 v0 rfl rfl) h0
  obtain ⟨a1, rfl, rfl, rfl, w1⟩ := open_int Yba.underlying3 (hval 1 3 v1 rfl rfl) h1
  obtain ⟨a2, rfl, rfl, rfl, w2⟩ := open_int Yba.underlying3 (hval 2 3 v2 rfl rfl) h2
  obtain ⟨a3, rfl, rfl, rfl, w3⟩ := open_int Yba.underlying3 (hval 3 3 v3 rfl rfl) h3
  clear hA0 hval0
  simp only [List.append_nil] at hW'
  refine (walk a0 a1 a2 a3 w0 w1 w2 w3 W).mono fun e W' ⟨he, hg⟩ => ?_
  subst he
  exact ⟨_, rfl, post_of_same (pa := []) (pv := []) hW' (fun _ _ _ => (trodAll_cons_mk (shut_bool Yba.underlying4 _) trodAll_mk0)) (fun sp _ => (trodAll_cons_mk (shut_int Yba.underlying3 w0) (trodAll_cons_mk (shut_int Yba.underlying3 w1) (trodAll_cons_mk (shut_int Yba.underlying3 w2) (trodAll_cons_mk (shut_int Yba.underlying3 w3) trodAll_mk0))))) (fun _ _ => rfl) rfl
    (hg.frame _) hg.2.1 (ok_one (by kernel_rfl) rfl (okWide_bool_mk Yba.underlying4 _))⟩

theorem over : Rows.lawS3817ATwiceRow.holds Yba.pinned (OpenSpec.ofChange Rows.lawS3817ATwiceSpec) :=
  OpenClaim.holds_of_wide 4 Yba.f4 rfl rfl rfl rfl rfl rfl rfl ⟨rfl, rfl, rfl, rfl, rfl⟩ rfl rfl rfl rfl rfl (by kernel_rfl) Yba.func4 (by kernel_rfl)
    (of_decide_eq_true (by kernel_rfl)) (by unfold Func.isWrapper; first | (rw [if_pos (by decide +kernel)]; kernel_rfl) | (rw [if_neg (by decide +kernel)]; exact ⟨rfl, rfl⟩))
    (fun os started H enc _ => lifted os started H enc)

/-- ████ THE STATEMENT ████ -/
theorem proved : Rows.LawS3817ATwiceSaid :=
  over
end Go.Proofs.Ybulkcaai.lawS3817ATwice
