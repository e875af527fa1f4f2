/-
  A row of octets of the call's own: 'owns B w v L'; the laws of append and make said of it.
-/
import Derived.Test.YbulkcacmWalks
import Derived.Test.YbulkcacmBuiltPlain
import Derived.OwnWalk
import Derived.Below
namespace Go.Proofs.Ybulkcacm
open Go.RowKit

theorem Yba.info5 : (Yba.prog.info? 5).map (fun i => (i.zero, i.size, i.bytes)) = some (some (.int .u8 0), 1, 1) := by kernel_rfl

theorem take_snoc (zs : List Int) (k : Nat) (h : k < zs.length) : zs.take (k + 1) = zs.take k ++ [zs.getD k 0] := by
  rw [List.take_succ_eq_append_getElem h, List.getD_eq_getElem?_getD, List.getElem?_eq_getElem h]
  rfl

/-- The row that is owned, as octets. -/
def owns (B : Nat) (w : World) (v : Value) (L : List Int) : Prop := w.ownsRow B 5 1 v L.length (L.map (Value.int .u8))

theorem owns.alloc {B : Nat} {w : World} {v : Value} {L : List Int} (h : owns B w v L) (o : Obj) : owns B (w.alloc o) v L := World.ownsRow.alloc h o

/-- What is owned, and not empty, is a slice over cells that hold the octets. -/
theorem owns.cells {B : Nat} {w : World} {v : Value} {L : List Int} (h : owns B w v L) (hL : 0 < L.length) :
    ∃ g cap, v = .slice (some ⟨g, 0, none⟩) L.length cap ∧ L.length ≤ cap ∧ g < w.heap.size ∧ ∀ i, i < L.length → w.cell? ⟨g, 0 + i, none⟩ = some (.int .u8 (zOf L i)) := by
  obtain ⟨_, h | ⟨g, cap, cur, hv, _, hg, hn, _, hcs, ht⟩⟩ := h
  · omega
  · refine ⟨g, cap, hv, hn, (Array.getElem?_eq_some_iff.1 hg).1, fun i hi => ?_⟩
    have h1 : (cur.toList.take (L.length * 1))[i]? = (L.map (Value.int .u8))[i]? := by rw [ht]
    rw [List.getElem?_take_of_lt (by omega)] at h1
    simp only [World.cell?, hg, Option.isSome_none, Nat.zero_add, Bool.false_eq_true, if_false]
    rw [← Array.getElem?_toList, h1]
    simp [zOf, List.getElem?_eq_getElem hi]

theorem owns.len {B : Nat} {w : World} {v : Value} {L : List Int} (h : owns B w v L) : ∃ a cap, v = .slice a L.length cap := by
  obtain ⟨_, ⟨rfl, e⟩ | ⟨g, cap, cur, hv, _⟩⟩ := h
  · exact ⟨none, 0, by rw [e]⟩
  · exact ⟨_, cap, hv⟩

/-- 'append(v, m...)' where v's row is the call's own and m's octets lie at g. -/
theorem wpList_appN (w : World) {ops : Array Oper} {rest : List Oper} {o : Oper} {a : Act} {Q : Exit → Act → World → Prop} (hgd : o.guard = none) (s x : Operand)
    (ho : o.op = .call { callee := .builtin .append, args := #[s, x], argTypes := #[22, 22] })
    (B : Nat) (v : Value) (L M : List Int) (hs : a.eval s = v) (hown : owns B w v L)
    (g m c : Nat) (hx : a.eval x = .slice (some ⟨g, 0, none⟩) m c) (hml : M.length = m) (hm : ∀ i, i < M.length → w.cell? ⟨g, i, none⟩ = some (.int .u8 (zOf M i)))
    (hlen : L.length + M.length ≤ 100000) (hB : B ≤ w.heap.size)
    (h : ∀ v' w', owns B w' v' (L ++ M) → Below B w w' → wpList Yba.prog ops Q rest (a.put o.dst v') w') : wpList Yba.prog ops Q (o :: rest) a w := by
  subst hml
  obtain ⟨i0, hi, hz0, hz1, hz2⟩ := info_parts Yba.info5
  refine wpList_append_own w hgd s x 22 ho B 5 i0 (.int .u8 0) 1 1 Yba.underlying22 hi hz0 hz1 hz2 rfl (by decide) v L.length (L.map (Value.int .u8)) hs hown ⟨g, 0, none⟩ M.length c (M.map (Value.int .u8)) hx (by simp) ?_ (ints_oneCell _ _) (by unfold maxLen; omega) (by omega) hB ?_
  · intro j u hj
    have hjl : j < M.length := by
      have := (List.getElem?_eq_some_iff.1 hj).1
      simpa using this
    rw [Addr.add_lit, Nat.zero_add, hm j hjl]
    rw [← hj]
    simp [zOf, List.getElem?_eq_getElem hjl]
  · intro v' w' hown' hgrow _
    refine h v' w' ?_ ((Below.refl B w).grown hgrow hB ?_)
    · unfold owns
      rw [List.length_append, List.map_append]
      exact hown'
    · intro k hk
      obtain ⟨_, ⟨rfl, _⟩ | ⟨g', cap, cur, rfl, hg', _⟩⟩ := hown
      · simp [Value.ownBlock] at hk
      · simp [Value.ownBlock] at hk
        omega

/-- 'append(v, n)'. -/
theorem wpList_app1 (w : World) {ops : Array Oper} {rest : List Oper} {o : Oper} {a : Act} {Q : Exit → Act → World → Prop} (hgd : o.guard = none) (s x : Operand)
    (ho : o.op = .call { callee := .builtin .append, args := #[s, x], argTypes := #[22, 22] })
    (B : Nat) (v : Value) (L : List Int) (n : Int) (hs : a.eval s = v) (hown : owns B w v L)
    (g : Nat) (hx : a.eval x = .slice (some ⟨g, 0, none⟩) 1 1) (hg : w.cell? ⟨g, 0, none⟩ = some (.int .u8 n))
    (hlen : L.length ≤ 99999) (hB : B ≤ w.heap.size)
    (h : ∀ v' w', owns B w' v' (L ++ [n]) → Below B w w' → wpList Yba.prog ops Q rest (a.put o.dst v') w') : wpList Yba.prog ops Q (o :: rest) a w :=
  wpList_appN w hgd s x ho B v L [n] hs hown g 1 1 hx rfl (fun i hi => by
    have e : i = 0 := by simp at hi; exact hi
    subst e
    exact hg) (by simp; omega) hB h

/-- 'make([]byte, 0, n)'. -/
theorem wpList_mk (w : World) {ops : Array Oper} {rest : List Oper} {o : Oper} {a : Act} {Q : Exit → Act → World → Prop} (hg : o.guard = none) (l c : Operand) (hop : o.op = Op.makeSlice 22 l c)
    (B : Nat) (C : Int) (n : Nat) (hl : a.eval l = .int .i64 0) (hc : a.eval c = .int .i64 C) (hC : C = (n : Int)) (hn : n ≤ 100000) (hB : B ≤ w.heap.size)
    (hK : ∀ v' w', owns B w' v' [] → Below B w w' → B < w'.heap.size → wpList Yba.prog ops Q rest (a.put o.dst v') w') : wpList Yba.prog ops Q (o :: rest) a w := by
  obtain ⟨i0, hi, hz0, hz1, hz2⟩ := info_parts Yba.info5
  refine wpList_make_own w hg l c 22 hop B 5 i0 (.int .u8 0) 1 Yba.underlying22 hi hz0 hz1 .i64 .i64 C n hl hc hC (by rw [hz2]; omega) (by unfold maxLen; omega) hB ?_
  intro w' hown hgrow
  refine hK _ w' hown ((Below.refl B w).grown hgrow hB (by simp)) ?_
  obtain ⟨_, ⟨h, _⟩ | ⟨g, cap, cur, hv, hBg, hh, _⟩⟩ := hown
  · cases h
  · have := (Array.getElem?_eq_some_iff.1 hh).1
    omega

end Go.Proofs.Ybulkcacm
