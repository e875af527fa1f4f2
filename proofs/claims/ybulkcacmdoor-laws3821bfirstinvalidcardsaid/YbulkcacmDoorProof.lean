/-
  gnward.LawS3821BFirstInvalid: from the row's condition ('laid') to the walk, and back to the row's statement.
-/
import Derived.Test.YbulkcacmDoorLaw
import Derived.ProofKit
import Derived.OpenShut
import Derived.ShutString
import Derived.ChangeOld
import Derived.Below
import Derived.LaidMore
import Derived.Stop.Joined
import Derived.Stop.LaidTwo
import Derived.RowKitTokens
import Derived.Deep.SlicePairs
namespace Go.Proofs.YbulkcacmDoor
open Go.ChangeShapes Go.WideShapes Go.ChangeAt Go.RowKit

theorem own : ownKnob Ybad.prog.godebug = none := by kernel_rfl
theorem laidOut : laidOutB Ybad.prog = true := by kernel_rfl

/-- The sentinels' names, as the row lists them. -/
def nO : String := Rows.lawS3821BFirstInvalidRow.named.getD 0 default
def nV : String := Rows.lawS3821BFirstInvalidRow.named.getD 1 default
theorem gO : Ybad.prog.globalNamed nO = some 0 := by kernel_rfl
theorem gV : Ybad.prog.globalNamed nV = some 1 := by kernel_rfl
theorem tO : (Ybad.prog.globals[0]?).map (·.type) = some 26 := by kernel_rfl
theorem tV : (Ybad.prog.globals[1]?).map (·.type) = some 26 := by kernel_rfl
theorem tT : (Ybad.prog.globals[2]?).map (·.type) = some 53 := by kernel_rfl

/-- The dynamic type's name, as the row lists it. -/
def errName : String := match Rows.laid_example_com_gnward_gnward_ErrIEValue (H := Unit) with | .iface n _ => n | _ => default
theorem row62 (u : TypeId) (h : Ybad.prog.typeName? 3 u = some errName) : u = 62 :=
  typeName_ptr_named (nm := "errors.errorString") (by kernel_rfl) (by kernel_rfl) (by decide) u (h.trans (congrArg some (by decide)))

theorem pow10_datum : Rows.laid_internal_strconv_uint64pow10 (H := Unit) = Lib.tabData .u64 Lib.pow10Tab := by kernel_rfl

/-- WHAT THE CONDITION GIVES THE WALK. -/
theorem of_laid {W : World} (h : laidMetH Ybad.prog Rows.lawS3821BFirstInvalidRow.laid W) : ∃ aO aV : Addr,
    Lib.TabIs Ybad.prog W pow10Name .u64 Lib.pow10Tab ∧ W.var? Ybad.prog nO = some #[.iface 62 (.pointer (some aO))] ∧ W.var? Ybad.prog nV = some #[.iface 62 (.pointer (some aV))] := by
  rw [MakeChecks.laidMetH_plain _ _ _ (by kernel_rfl)] at h
  have h1 : laidMet Ybad.prog [(Rows.lawS3821BFirstInvalidRow.named.getD 3 default, Rows.laid_math_bits_deBruijn32tab), (Rows.lawS3821BFirstInvalidRow.named.getD 4 default, Rows.laid_math_bits_deBruijn64tab), (pow10Name, Rows.laid_internal_strconv_uint64pow10), (nV, Rows.laid_example_com_gnward_gnward_ErrIEValue), (nO, Rows.laid_example_com_gnward_gnward_ErrIEOrder)] W := h
  have h2 := h1.tail.tail
  have h3 := h2.tail
  rw [pow10_datum] at h2
  have ht : Lib.TabIs Ybad.prog W pow10Name .u64 Lib.pow10Tab := Lib.tabIs_of_head g2 tT Ybad.underlying53 Ybad.underlying46 (by kernel_rfl) (by kernel_rfl) h2
  obtain ⟨aV, aO, s0, s1, c0, c1, t0, t1, hv, ho, _⟩ := laid_sentinels2 (n0 := nV) (n1 := nO) h3 gV tV gO tO Ybad.underlying26 row62 Ybad.underlying62 Ybad.underlying79 rfl rfl Ybad.underlying9 (by kernel_rfl) (by kernel_rfl)
  exact ⟨aO, aV, ht, ho, hv⟩

theorem env_of {W : World} {aO aV : Addr} (ht : Lib.TabIs Ybad.prog W pow10Name .u64 Lib.pow10Tab) (ho : W.var? Ybad.prog nO = some #[.iface 62 (.pointer (some aO))]) (hv : W.var? Ybad.prog nV = some #[.iface 62 (.pointer (some aV))]) :
    Env W (.pointer (some aO)) (.pointer (some aV)) := by
  have h2 := ht.cell g2 0 (by decide)
  refine ⟨ht, by simpa using World.var?_cell gO ho 0, by simpa using World.var?_cell gV hv 0, ?_⟩
  rcases Nat.lt_or_ge 2 W.heap.size with h | h
  · exact h
  · simp [World.cell?, Array.getElem?_eq_none h] at h2

/-- The two variables read as tokens. -/
theorem vars_read {H : Type} (enc : TypeId × Value → H) {W : World} {x0 x1 : Value} (h0 : W.var? Ybad.prog nO = some #[x0]) (h1 : W.var? Ybad.prog nV = some #[x1]) (i0 : IsIface x0) (i1 : IsIface x1) (sp : Nat → Bool) :
    DataW.TrodVars enc Ybad.prog W sp Rows.lawS3821BFirstInvalidSpec.vars [tok enc x0, tok enc x1] [.cell 0 0, .cell 1 0] :=
  ⟨0, 26, #[x0], 1, [], [.cell 1 0], gO, tO, h0, trod_held Ybad.underlying26 i0 0, ⟨1, 26, #[x1], 1, [], [], gV, tV, h1, trod_held Ybad.underlying26 i1 0, rfl, rfl⟩, rfl⟩

/-- The door's own heap meets the condition. -/
theorem door_met (os : Os) (args : Array Value) : laidMetH Ybad.prog Rows.lawS3821BFirstInvalidRow.laid ((World.doorLaid Ybad.prog 62 os).forCall (fun _ _ => 0) ⟨#[], args, []⟩).memory :=
  laidMetH_of_parts3 (fuel := 8) (laidMet_of_run' 8 (by kernel_rfl) (by kernel_rfl)) (by kernel_rfl) (by kernel_rfl)

def numOf : Value → Nat | .int _ n => n.toNat | _ => 0
def boolOf : Value → Bool | .bool x => x | _ => false

/-- What the walk is told of the steps: nothing where there is none; else where they lie, and each one's two cells. -/
theorem open_steps {H : Type} {enc : TypeId × Value → H} {W : World} {base fuel : Nat} {sp : Nat → Bool} {held : Bool} {a : Option Addr} {len cap : Nat} {x : DataW H × List MemPlace}
    (h : DataW.trod enc Ybad.prog W base sp held fuel 22 [.slice a len cap] = some x) : ∃ (ty : Nat → Nat) (va : Nat → Bool), len ≤ maxLen ∧ (0 < len → ∃ b off, a = some ⟨b, off, none⟩ ∧ b < W.heap.size ∧
      (∀ i, i < len → W.cell? ⟨b, off + i * 2, none⟩ = some (.int .u8 (ty i : Int))) ∧ (∀ i, i < len → W.cell? ⟨b, off + i * 2 + 1, none⟩ = some (.bool (va i))) ∧ ∀ i, i < len → ty i ≤ 255) := by
  rcases Deep.open_slice_pairs Ybad.underlying22 Ybad.underlying31 (by kernel_rfl) rfl rfl (by kernel_rfl) (by kernel_rfl) h with ⟨hcs, _⟩ | ⟨x0, l, c, m, n, V0, V1, D0, D1, P0, P1, hcs, _, hl, hm, hmm, _, hx⟩
  · simp at hcs
    obtain ⟨rfl, rfl, rfl⟩ := hcs
    exact ⟨fun _ => 0, fun _ => false, Nat.zero_le _, fun h => absurd h (by omega)⟩
  · simp at hcs
    obtain ⟨rfl, rfl, rfl⟩ := hcs
    have hlm : len ≤ m := by rw [hmm]; split <;> omega
    refine ⟨fun i => numOf (V0 i), fun i => boolOf (V1 i), Nat.le_trans hl hm, fun h0 => ?_⟩
    obtain ⟨b, off, spot⟩ := x0
    have hc0 := (hx 0 (by omega)).1
    cases spot with
    | some s => simp [World.cell?, Addr.add] at hc0; split at hc0 <;> simp at hc0
    | none =>
      refine ⟨b, off, rfl, ?_, fun i hi => ?_, fun i hi => ?_, fun i hi => ?_⟩
      · rcases Nat.lt_or_ge b W.heap.size with g | g
        · exact g
        · simp [World.cell?, Addr.add, Array.getElem?_eq_none g] at hc0
      · obtain ⟨h1, _, h3, _⟩ := hx i (by omega)
        obtain ⟨q, e, _, wq⟩ := DataW.trod_int Ybad.underlying5 h3
        simp at e
        have hq := bounds_u8 wq
        rw [Addr.add_lit] at h1
        have en : (numOf (V0 i) : Int) = q := by rw [e]; simp [numOf]; omega
        show W.cell? _ = some (.int .u8 (numOf (V0 i) : Int))
        rw [h1, en, e]
      · obtain ⟨_, h2, _, h4⟩ := hx i (by omega)
        obtain ⟨q, e, _⟩ := DataW.trod_bool Ybad.underlying4 h4
        simp at e
        rw [Addr.add_lit] at h2
        show W.cell? _ = some (.bool (boolOf (V1 i)))
        rw [Nat.add_assoc, h2, e]
        rfl
      · obtain ⟨_, _, h3, _⟩ := hx i (by omega)
        obtain ⟨q, e, _, wq⟩ := DataW.trod_int Ybad.underlying5 h3
        simp at e
        have hq := bounds_u8 wq
        show numOf (V0 i) ≤ 255
        rw [e]
        simp [numOf]
        omega

/-- More than 1024 steps: true at once. -/
theorem law_big (a : Option Addr) (len cap : Nat) (p : Bool) (x y z : Int) (w : World) (h : 1024 < len) (hm : len ≤ maxLen) :
    Calls Ybad.prog 3 #[.slice a len cap, .bool p, .int .u8 x, .int .u8 y, .int .i64 z] w fun e w' => e = .returned (.bool true) ∧ Below w.heap.size w w' := by
  unfold maxLen at hm
  go_enter Ybad.func3, Ybad.ntmps3
  go_wp2_with fail
  go_ret
  exact ⟨rfl, Below.refl _ _⟩

set_option maxRecDepth 100000 in
theorem lifted (os : Os) (started : os.Started) (H : Type) (enc : TypeId × Value → H) :
    ReturnsInHanded {} Ybad.checked os 3 .any (fun w args => (Rows.lawS3821BFirstInvalidSpec.pre enc Ybad.prog Ybad.f3 [] false w args ∧ laidMetH Ybad.prog Rows.lawS3821BFirstInvalidRow.laid w) ∧ sizedMet enc Ybad.prog Ybad.f3 (OpenSpec.ofChange Rows.lawS3821BFirstInvalidSpec) false w args)
      (Rows.lawS3821BFirstInvalidSpec.post enc Ybad.prog Ybad.f3 false true false false) := by
  refine returnsInHanded_of_change_and (C := Ybad.checked) (X := fun w _ => laidMetH Ybad.prog Rows.lawS3821BFirstInvalidRow.laid w) (fun _ _ _ hh h => h.of_heap hh) own started (by kernel_rfl) Ybad.func3
    (ChangeSpec.witness_shaped (enc := enc) (C := Ybad.checked) (os := os) (X := fun w _ => laidMetH Ybad.prog Rows.lawS3821BFirstInvalidRow.laid w) false (World.doorLaid Ybad.prog 62 os) #[.slice none 0 0, .bool false, .int .u8 0, .int .u8 0, .int .i64 0] 8 rfl (World.shaped_of_RefB (by kernel_rfl) (by kernel_rfl)) (by kernel_rfl) (by kernel_rfl) (by kernel_rfl) (door_met os _)) ?_
  intro W base args ds gs before hval0 hW _ _ hL _
  have hval : ∀ (j : Nat) t v, Ybad.f3.params[j]? = some t → args[j]? = some v → Value.okWide Ybad.prog W .any base t v := hval0
  have hW' := hW
  obtain ⟨p, q, hA0, hV0, rfl, hfz, hnd⟩ := hW
  have hA : DataW.TrodAll enc Ybad.prog W 0 (fun _ => true) true Ybad.f3.params.toList args.toList ds p := hA0
  have hV : DataW.TrodVars enc Ybad.prog W (fun _ => true) Rows.lawS3821BFirstInvalidSpec.vars gs q := hV0
  rw [Ybad.params3] at hA hval
  obtain ⟨v0, vs0, d0, ds0, p0, q0, hargs, rfl, rfl, h0, r0⟩ := trodAll_cons hA
  obtain ⟨v1, vs1, d1, ds1, p1, q1, rfl, rfl, rfl, h1, r1⟩ := trodAll_cons r0
  obtain ⟨v2, vs2, d2, ds2, p2, q2, rfl, rfl, rfl, h2, r2⟩ := trodAll_cons r1
  obtain ⟨v3, vs3, d3, ds3, p3, q3, rfl, rfl, rfl, h3, r3⟩ := trodAll_cons r2
  obtain ⟨v4, vs4, d4, ds4, p4, q4, rfl, rfl, rfl, h4, r4⟩ := trodAll_cons r3
  obtain ⟨rfl, rfl, rfl⟩ := trodAll_nil r4
  obtain rfl : args = #[v0, v1, v2, v3, v4] := by cases args; simp_all
  obtain ⟨aO, aV, htab, ho, hv⟩ := of_laid hL
  obtain ⟨rfl, rfl⟩ := hV.unique (vars_read enc ho hv trivial trivial _)
  obtain ⟨a0, len0, cap0, rfl⟩ := okWide_slice Ybad.underlying22 (hval 0 22 v0 rfl rfl)
  have k0 := h0
  have lt0 : ∀ x ∈ p0, x.block < W.heap.size := by obtain ⟨m, hm⟩ := k0; exact DataW.trod_lt m _ _ _ hm
  obtain ⟨ty, va, hlm, hst⟩ := (by obtain ⟨fuel, hf⟩ := h0; exact open_steps (by simpa [Value.cells] using hf) : ∃ (ty : Nat → Nat) (va : Nat → Bool), len0 ≤ maxLen ∧ (0 < len0 → ∃ b off, a0 = some ⟨b, off, none⟩ ∧ b < W.heap.size ∧
      (∀ i, i < len0 → W.cell? ⟨b, off + i * 2, none⟩ = some (.int .u8 (ty i : Int))) ∧ (∀ i, i < len0 → W.cell? ⟨b, off + i * 2 + 1, none⟩ = some (.bool (va i))) ∧ ∀ i, i < len0 → ty i ≤ 255))
  obtain ⟨x1, rfl, rfl, rfl⟩ := open_bool Ybad.underlying4 (hval 1 4 v1 rfl rfl) h1
  obtain ⟨x2, rfl, rfl, rfl, w2⟩ := open_int Ybad.underlying5 (hval 2 5 v2 rfl rfl) h2
  obtain ⟨x3, rfl, rfl, rfl, w3⟩ := open_int Ybad.underlying5 (hval 3 5 v3 rfl rfl) h3
  obtain ⟨x4, rfl, rfl, rfl, w4⟩ := open_int Ybad.underlying3 (hval 4 3 v4 rfl rfl) h4
  clear hA0 hV0 hval0
  have henv := env_of htab ho hv
  have bel0 : Calls Ybad.prog 3 #[.slice a0 len0 cap0, .bool x1, .int .u8 x2, .int .u8 x3, .int .i64 x4] W fun e w' => e = .returned (.bool true) ∧ Below W.heap.size W w' := by
    by_cases hbig : 1024 < len0
    · exact law_big a0 len0 cap0 x1 x2 x3 x4 W hbig hlm
    · have b2 := bounds_u8 w2
      have b3 := bounds_u8 w3
      obtain ⟨m2, rfl⟩ : ∃ m : Nat, x2 = m := ⟨x2.toNat, by omega⟩
      obtain ⟨m3, rfl⟩ : ∃ m : Nat, x3 = m := ⟨x3.toNat, by omega⟩
      by_cases hz : 0 < len0
      · obtain ⟨b, off, rfl, hb, ht, hvv, hy⟩ := hst hz
        exact law_any (some ⟨b, off, none⟩) b off len0 cap0 ty va x1 m2 m3 x4 (.pointer (some aO)) aV W henv (by omega) (fun _ => rfl) (fun _ => hb) ht hvv hy (by omega) (by omega)
      · obtain rfl : len0 = 0 := by omega
        exact law_any a0 0 0 0 cap0 ty va x1 m2 m3 x4 (.pointer (some aO)) aV W henv (by omega) (fun h => absurd h (by omega)) (fun h => absurd h (by omega)) (fun i hi => absurd hi (by omega)) (fun i hi => absurd hi (by omega)) (fun i hi => absurd hi (by omega)) (by omega) (by omega)
  refine bel0.mono fun e W' ⟨he, bel⟩ => ?_
  subst he
  have h3le := henv.three
  exact ⟨_, rfl, _, _, _, [], _, [.cell 0 0, .cell 1 0], hW', trodAll_mk1 (shut_bool Ybad.underlying4 _),
    (trodAll_cons_mk (Below.trod laidOut (by kernel_rfl) (of_decide_eq_true (by kernel_rfl)) k0 bel lt0) (trodAll_cons_mk (shut_bool Ybad.underlying4 _) (trodAll_cons_mk (shut_int Ybad.underlying5 w2) (trodAll_cons_mk (shut_int Ybad.underlying5 w3) (trodAll_cons_mk (shut_int Ybad.underlying3 w4) trodAll_mk0))))),
    vars_read enc (var?_below bel gO (by omega) ho) (var?_below bel gV (by omega) hv) trivial trivial _, bel.frame _, fun h => by cases h⟩

theorem row_holds : Rows.LawS3821BFirstInvalidSaid :=
  OpenClaim.holds_of_wide 3 Ybad.f3 rfl rfl rfl rfl rfl rfl rfl ⟨rfl, rfl, rfl, rfl, rfl⟩ rfl rfl rfl rfl rfl (by kernel_rfl) Ybad.func3 (by kernel_rfl)
    (of_decide_eq_true (by kernel_rfl)) (by unfold Func.isWrapper; first | (rw [if_pos (by decide +kernel)]; kernel_rfl) | (rw [if_neg (by decide +kernel)]; exact ⟨rfl, rfl⟩))
    (fun os started H enc _ => lifted os started H enc)

end Go.Proofs.YbulkcacmDoor
