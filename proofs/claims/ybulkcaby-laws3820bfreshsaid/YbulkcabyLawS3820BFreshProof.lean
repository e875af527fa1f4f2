/-
  THE SHELL OF A PROOF OF 'Rows.LawS3820BFreshSaid' ('example.com/cordon/cordon/pkg/server.LawS3820BFresh'), WRITTEN BY PROGRAM (proof-skeleton.mjs) off the guide's own print for that function. Not trusted: Lean checks it.
  The walk is filled in by hand; all else is the guide's template at this function's number and types.
-/
import Derived.Test.YbulkcabyRows
import Derived.Test.YbulkcabyMapLaws
import Derived.WalkKit
import Derived.ProofKit
import Derived.OpenShut
import Derived.ShutString
namespace Go.Proofs.Ybulkcaby.lawS3820BFresh
open Go.ChangeShapes Go.WideShapes Go.ChangeAt Go.RowKit
open Go.ChangeMaps (open_string shut_string)
set_option linter.unusedVariables false      -- a walk need not use every 'w<i>' (that an integer argument fits its kind)

theorem own : ownKnob Yba.prog.godebug = none := by kernel_rfl

/-! ### STEP 1: THE WALK: the Go text returns true. 'Grown w w'': the world has at most new blocks (Derived/RowKit3.lean). Part the cases AHEAD of 'go_enter' where a test parts the walk; take each callee by a contract of your own. -/
set_option maxRecDepth 100000 in
set_option maxHeartbeats 400000 in
theorem walk (a0 : ByteArray) (a1 : Int) (a2 : Int) (w0 : a0.size ≤ maxLen) (w1 : (Lit.int .i64 a1).wf = true) (w2 : (Lit.int .u8 a2).wf = true) (w : World) :
    Calls Yba.prog 4 #[.string a0, .int .i64 a1, .int .u8 a2] w fun e w' => e = .returned (.bool true) ∧ Grown w w' := by
  have hb2 := bounds_u8 w2
  obtain ⟨m, rfl⟩ : ∃ m : Nat, a2 = m := ⟨a2.toNat, by omega⟩
  have hm255 : m ≤ 255 := by omega
  obtain ⟨k, hk, hk32⟩ : ∃ k : Nat, (m : Int) % 32 = (k : Int) ∧ k < 32 := ⟨m % 32, by omega, by omega⟩
  clear hb2 w2 w1 w0
  go_enter Yba.func4, Yba.ntmps4
  go_wp2_with fail
  refine (new_at _).mono ?_
  rintro e w1 ⟨rfl, hf1, hg1, hz1, hb1⟩
  go_wp2_with fail
  refine (new_at _).mono ?_
  rintro e w2 ⟨rfl, hf2, hg2, hz2, hb2⟩
  rw [hz1] at hf2 hb2 hz2 ⊢
  have hf := hf1.below hb2 (Nat.le_refl _)
  have HG : Hid (Grown w w2) := ⟨World.keptBut_trans hg1.1 (World.keptBut_mono (fun _ f => f.elim) hg2.1), fun a => (hg2.2.1 a).trans (hg1.2.1 a), Nat.le_trans hg1.2.2 hg2.2.2⟩
  clear hf1 hg1 hg2 hz1 hb1 hb2
  generalize hn : w.heap.size = n at *
  have HW : Hid (w.heap.size = n) := hn
  clear hn
  have heq := eql_sets hf hf2 (by omega)
  have hsame := eql_node
  have c0 := hf.c0
  have H0 : Hid (w2.heap[n]? = some (.map #[] 0)) := hf.map
  go_wp2_with (at_mapUpdate; refine wpList_upd _ rfl _ _ _ rfl n a0 _ rfl rfl rfl (map_alloc H0.out _) ?_; intro w3 hu; have hmid := mid_of (hf.alloc _) (hf2.alloc _) hk32 hu; have hgr := hu.grown (Grown.alloc HG.out _ _) (Nat.le_of_eq HW.out); obtain ⟨m1, m2, c0, c4, c5, t1, s1, d0, d4, d5, d6, t2, s2, f5, ft, fs⟩ := hmid; have hlen := fun p1 v1 p2 v2 p3 v3 => len_empty (((w3.setCell p1 v1).setCell p2 v2).setCell p3 v3) (n + 3) (map_setCell (map_setCell (map_setCell m2 p1 v1) p2 v2) p3 v3); have hlk2 := fun p1 v1 p2 v2 p3 v3 => look_empty (((w3.setCell p1 v1).setCell p2 v2).setCell p3 v3) (n + 3) a0 (map_setCell (map_setCell (map_setCell m2 p1 v1) p2 v2) p3 v3); have hlk1 := fun p1 v1 p2 v2 p3 v3 => look_one (((w3.setCell p1 v1).setCell p2 v2).setCell p3 v3) n 1 a0 _ (map_setCell (map_setCell (map_setCell m1 p1 v1) p2 v2) p3 v3); clear hu H0 HG m1 m2)
  go_ret
  exact ⟨rfl, ((hgr.setCell (by simp [HW.out]) _).setCell (by simp [HW.out]) _).setCell (by simp [HW.out]) _⟩

/-! ### THE ROW's STEP: WRITTEN OUT: LEAVE IT -/
set_option maxRecDepth 100000 in
theorem lifted (os : Os) (started : os.Started) (H : Type) (enc : TypeId × Value → H) :
    ReturnsInHanded {} Yba.checked os 4 .any (Rows.lawS3820BFreshSpec.pre6 enc Yba.prog Yba.f4 Rows.lawS3820BFreshRow.domain false) (Rows.lawS3820BFreshSpec.post enc Yba.prog Yba.f4 false true false false) := by
  refine returnsInHanded_of_change (C := Yba.checked) own started (by kernel_rfl) Yba.func4
    (ChangeSpec.witness6 (enc := enc) (C := Yba.checked) false ⟨#[], #[.string ByteArray.empty, .int .i64 0, .int .u8 0], []⟩ 8 (by kernel_rfl) (by kernel_rfl) (by kernel_rfl) (by kernel_rfl)) ?_
  intro W base args ds gs before hval0 hW hcnd _
  have hval : ∀ (j : Nat) t v, Yba.f4.params[j]? = some t → args[j]? = some v → Value.okWide Yba.prog W .any base t v := hval0
  have hW' := hW
  obtain ⟨p, q, hA0, hV, rfl, hfz, hnd⟩ := hW
  have hA : DataW.TrodAll enc Yba.prog W 0 (fun _ => true) true Yba.f4.params.toList args.toList ds p := hA0
  rw [Yba.params4] at hA hval
  obtain ⟨v0, vs0, d0, ds0, p0, q0, hargs, rfl, rfl, h0, r0⟩ := trodAll_cons hA
  obtain ⟨v1, vs1, d1, ds1, p1, q1, rfl, rfl, rfl, h1, r1⟩ := trodAll_cons r0
  obtain ⟨v2, vs2, d2, ds2, p2, q2, rfl, rfl, rfl, h2, r2⟩ := trodAll_cons r1
  obtain ⟨rfl, rfl, rfl⟩ := trodAll_nil r2
  obtain rfl : args = #[v0, v1, v2] := by cases args; simp_all
  obtain ⟨rfl, rfl⟩ := trodVars_none hV
  obtain ⟨a0, rfl, rfl, rfl, w0⟩ := open_string Yba.underlying9 (hval 0 9 v0 rfl rfl) h0
  obtain ⟨a1, rfl, rfl, rfl, w1⟩ := open_int Yba.underlying3 (hval 1 3 v1 rfl rfl) h1
  obtain ⟨a2, rfl, rfl, rfl, w2⟩ := open_int Yba.underlying5 (hval 2 5 v2 rfl rfl) h2
  clear hA0 hval0
  simp only [List.append_nil] at hW'
  refine (walk a0 a1 a2 w0 w1 w2 W).mono fun e W' ⟨he, hg⟩ => ?_
  subst he
  exact ⟨_, rfl, post_of_same (pa := []) (pv := []) hW' (fun _ _ _ => (trodAll_cons_mk (shut_bool Yba.underlying4 _) trodAll_mk0)) (fun sp _ => (trodAll_cons_mk (shut_string Yba.underlying9 w0) (trodAll_cons_mk (shut_int Yba.underlying3 w1) (trodAll_cons_mk (shut_int Yba.underlying5 w2) trodAll_mk0)))) (fun _ _ => rfl) rfl
    (hg.frame _) hg.2.1 (ok_one (by kernel_rfl) rfl (okWide_bool_mk Yba.underlying4 _))⟩

theorem over : Rows.lawS3820BFreshRow.holds Yba.pinned (OpenSpec.ofChange Rows.lawS3820BFreshSpec) :=
  OpenClaim.holds_of_wide 4 Yba.f4 rfl rfl rfl rfl rfl rfl rfl ⟨rfl, rfl, rfl, rfl, rfl⟩ rfl rfl rfl rfl rfl (by kernel_rfl) Yba.func4 (by kernel_rfl)
    (of_decide_eq_true (by kernel_rfl)) (by unfold Func.isWrapper; first | (rw [if_pos (by decide +kernel)]; kernel_rfl) | (rw [if_neg (by decide +kernel)]; exact ⟨rfl, rfl⟩))
    (fun os started H enc _ => lifted os started H enc)

/-- ████ THE STATEMENT ████ -/
theorem proved : Rows.LawS3820BFreshSaid :=
  over
end Go.Proofs.Ybulkcaby.lawS3820BFresh
