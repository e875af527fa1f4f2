/-
  The walker of the law: what its block holds.
-/
import Derived.Test.YbulkcacmDoorErr
import Derived.LaidEql
namespace Go.Proofs.YbulkcacmDoor
open Go.RowKit

/-- The 262 cells of 'var w ieWalker'. -/
def Z28 : Array Value := (([Value.slice none 0 0, Value.int .u8 0] ++ List.replicate 256 (Value.bool false)) ++ [Value.int .i64 0, Value.nilIface, Value.nilIface, Value.nilIface]).toArray

theorem alloc28 (w : World) : (Instr.alloc 28 true (.tuple #[])).run Ybad.prog w = .ok (.pointer (some ⟨w.heap.size, 0, none⟩)) (w.alloc (.cells Z28 28)) := by kernel_rfl

/-- The walker at block B: 'last', 'gsn', 'seen' by 'sn', 'disorder', 'invalid'; 'rest' and 'err' are nil. -/
structure Wk (w : World) (B : Nat) (last gsn : Int) (sn : Nat → Bool) (dis inv : Value) : Prop where
  c0 : w.cell? ⟨B, 0, none⟩ = some (.slice none 0 0)
  c1 : w.cell? ⟨B, 1, none⟩ = some (.int .u8 last)
  seen : ∀ i, i < 256 → w.cell? ⟨B, 2 + i, none⟩ = some (.bool (sn i))
  c258 : w.cell? ⟨B, 258, none⟩ = some (.int .i64 gsn)
  c259 : w.cell? ⟨B, 259, none⟩ = some .nilIface
  c260 : w.cell? ⟨B, 260, none⟩ = some dis
  c261 : w.cell? ⟨B, 261, none⟩ = some inv
  free : ∀ j, w.frozen? ⟨B, j, none⟩ = false

theorem Wk.lt {w : World} {B : Nat} {last gsn : Int} {sn : Nat → Bool} {dis inv : Value} (h : Wk w B last gsn sn dis inv) : B < w.heap.size := by
  have h0 := h.c0
  rcases Nat.lt_or_ge B w.heap.size with g | g
  · exact g
  · simp [World.cell?, Array.getElem?_eq_none g] at h0

theorem mid_at {α : Type} (A C : List α) (n i : Nat) (x : α) (h : i < n) : ((A ++ List.replicate n x) ++ C)[A.length + i]? = some x := by
  rw [List.getElem?_append_left (by rw [List.length_append, List.length_replicate]; omega), List.getElem?_append_right (by omega), List.getElem?_replicate]
  rw [if_pos (by omega)]

theorem z_seen (i : Nat) (h : i < 256) : Z28[2 + i]? = some (.bool false) := by
  unfold Z28
  rw [List.getElem?_toArray]
  exact mid_at [Value.slice none 0 0, Value.int .u8 0] [Value.int .i64 0, Value.nilIface, Value.nilIface, Value.nilIface] 256 i (Value.bool false) h
theorem z0 : Z28[0]? = some (.slice none 0 0) := by kernel_rfl
theorem z1 : Z28[1]? = some (.int .u8 0) := by kernel_rfl
theorem z258 : Z28[258]? = some (.int .i64 0) := by kernel_rfl
theorem z259 : Z28[259]? = some .nilIface := by kernel_rfl
theorem z260 : Z28[260]? = some .nilIface := by kernel_rfl
theorem z261 : Z28[261]? = some .nilIface := by kernel_rfl

theorem Wk.new (w : World) : Wk (w.alloc (.cells Z28 28)) w.heap.size 0 0 (fun _ => false) .nilIface .nilIface := by
  have hh : (w.alloc (.cells Z28 28)).heap[w.heap.size]? = some (.cells Z28 28) := (MapKept.heap_alloc w _).1
  generalize w.alloc (.cells Z28 28) = w1 at hh
  have hc : ∀ j, w1.cell? ⟨w.heap.size, j, none⟩ = Z28[j]? := fun j => by
    unfold World.cell?
    rw [hh]
    rfl
  exact ⟨(hc _).trans z0, (hc _).trans z1, fun i hi => (hc _).trans (z_seen i hi), (hc _).trans z258, (hc _).trans z259, (hc _).trans z260, (hc _).trans z261, fun j => by unfold World.frozen?; rw [hh]; simp⟩

theorem Wk.below {w w' : World} {B B' : Nat} {last gsn : Int} {sn : Nat → Bool} {dis inv : Value} (h : Wk w B last gsn sn dis inv) (hb : Below B' w w') (hB : B < B') : Wk w' B last gsn sn dis inv :=
  ⟨(hb.cell (p := ⟨B, 0, none⟩) hB).trans h.c0, (hb.cell (p := ⟨B, 1, none⟩) hB).trans h.c1, fun i hi => (hb.cell (p := ⟨B, 2 + i, none⟩) hB).trans (h.seen i hi), (hb.cell (p := ⟨B, 258, none⟩) hB).trans h.c258,
    (hb.cell (p := ⟨B, 259, none⟩) hB).trans h.c259, (hb.cell (p := ⟨B, 260, none⟩) hB).trans h.c260, (hb.cell (p := ⟨B, 261, none⟩) hB).trans h.c261, fun j => (hb.frozen (p := ⟨B, j, none⟩) hB).trans (h.free j)⟩

theorem cell_off {w : World} {B i j : Nat} {v : Value} (h : i ≠ j) : (w.setCell ⟨B, i, none⟩ v).cell? ⟨B, j, none⟩ = w.cell? ⟨B, j, none⟩ :=
  World.cell?_setCell_other _ _ _ _ (by intro e; injection e; omega)

theorem Wk.set1 {w : World} {B : Nat} {last gsn : Int} {sn : Nat → Bool} {dis inv : Value} (h : Wk w B last gsn sn dis inv) (x : Int) : Wk (w.setCell ⟨B, 1, none⟩ (.int .u8 x)) B x gsn sn dis inv :=
  ⟨(cell_off (by omega)).trans h.c0, World.cell?_setCell_same _ _ _ h.c1, fun i hi => (cell_off (by omega)).trans (h.seen i hi), (cell_off (by omega)).trans h.c258, (cell_off (by omega)).trans h.c259, (cell_off (by omega)).trans h.c260, (cell_off (by omega)).trans h.c261,
    fun j => (World.frozen?_setCell _ _ _ _).trans (h.free j)⟩
theorem Wk.set258 {w : World} {B : Nat} {last gsn : Int} {sn : Nat → Bool} {dis inv : Value} (h : Wk w B last gsn sn dis inv) (x : Int) : Wk (w.setCell ⟨B, 258, none⟩ (.int .i64 x)) B last x sn dis inv :=
  ⟨(cell_off (by omega)).trans h.c0, (cell_off (by omega)).trans h.c1, fun i hi => (cell_off (by omega)).trans (h.seen i hi), World.cell?_setCell_same _ _ _ h.c258, (cell_off (by omega)).trans h.c259, (cell_off (by omega)).trans h.c260, (cell_off (by omega)).trans h.c261,
    fun j => (World.frozen?_setCell _ _ _ _).trans (h.free j)⟩
theorem Wk.set260 {w : World} {B : Nat} {last gsn : Int} {sn : Nat → Bool} {dis inv : Value} (h : Wk w B last gsn sn dis inv) (x : Value) : Wk (w.setCell ⟨B, 260, none⟩ x) B last gsn sn x inv :=
  ⟨(cell_off (by omega)).trans h.c0, (cell_off (by omega)).trans h.c1, fun i hi => (cell_off (by omega)).trans (h.seen i hi), (cell_off (by omega)).trans h.c258, (cell_off (by omega)).trans h.c259, World.cell?_setCell_same _ _ _ h.c260, (cell_off (by omega)).trans h.c261,
    fun j => (World.frozen?_setCell _ _ _ _).trans (h.free j)⟩
theorem Wk.set261 {w : World} {B : Nat} {last gsn : Int} {sn : Nat → Bool} {dis inv : Value} (h : Wk w B last gsn sn dis inv) (x : Value) : Wk (w.setCell ⟨B, 261, none⟩ x) B last gsn sn dis x :=
  ⟨(cell_off (by omega)).trans h.c0, (cell_off (by omega)).trans h.c1, fun i hi => (cell_off (by omega)).trans (h.seen i hi), (cell_off (by omega)).trans h.c258, (cell_off (by omega)).trans h.c259, (cell_off (by omega)).trans h.c260, World.cell?_setCell_same _ _ _ h.c261,
    fun j => (World.frozen?_setCell _ _ _ _).trans (h.free j)⟩
theorem Wk.setSeen {w : World} {B : Nat} {last gsn : Int} {dis inv : Value} (h : Wk w B last gsn (fun _ => false) dis inv) (l : Nat) (hl : l < 256) : Wk (w.setCell ⟨B, 2 + l, none⟩ (.bool true)) B last gsn (fun i => i == l) dis inv := by
  refine ⟨(cell_off (by omega)).trans h.c0, (cell_off (by omega)).trans h.c1, fun i hi => ?_, (cell_off (by omega)).trans h.c258, (cell_off (by omega)).trans h.c259, (cell_off (by omega)).trans h.c260, (cell_off (by omega)).trans h.c261,
    fun j => (World.frozen?_setCell _ _ _ _).trans (h.free j)⟩
  by_cases e : i = l
  · subst e
    rw [World.cell?_setCell_same _ _ _ (h.seen i hi)]
    simp
  · rw [cell_off (by omega), h.seen i hi]
    simp [e]

/-- 'var w ieWalker': the walk goes on in a world of which only the walker and the rest are told. -/
theorem wpList_walker (w : World) {ops : Array Oper} {rest : List Oper} {o : Oper} {a : Act} {Q : Exit → Act → World → Prop} (hg : o.guard = none) (hop : o.op = Op.alloc 28)
    (hK : ∀ w', Wk w' w.heap.size 0 0 (fun _ => false) .nilIface .nilIface → Below w.heap.size w w' → w'.heap.size = w.heap.size + 1 → wpList Ybad.prog ops Q rest (a.put o.dst (.pointer (some ⟨w.heap.size, 0, none⟩))) w') :
    wpList Ybad.prog ops Q (o :: rest) a w := by
  refine wpList_plain hg fun K' hK' => ?_
  unfold Oper.wp
  simp [execOp, hop, alloc28, Result.andThen]
  exact hK' _ _ (hK _ (Wk.new w) ((Below.refl _ _).alloc (Nat.le_refl _) _) (by simp))

theorem info_comp {P : Program} {t : TypeId} (h : (P.info? t).map (·.comparable) = some true) : ∃ i, P.info? t = some i ∧ i.comparable = true := by
  cases hj : P.info? t with
  | none => rw [hj] at h; cases h
  | some j => rw [hj] at h; simp at h; exact ⟨j, rfl, h⟩
theorem info_some {P : Program} {t : TypeId} (h : (P.info? t).isSome = true) : ∃ i, P.info? t = some i := Option.isSome_iff_exists.1 h

/-- One and the same error of the project's is equal to itself. -/
theorem eql_det (w : World) (x : Addr) : (binOp .eql 26 (.iface 35 (.pointer (some x))) (.iface 35 (.pointer (some x)))).run Ybad.prog w = .ok (.bool true) w := by
  obtain ⟨i, hi, hc⟩ := info_comp (P := Ybad.prog) (t := 35) (by kernel_rfl)
  obtain ⟨j, hj⟩ := info_some (P := Ybad.prog) (t := 38) (by kernel_rfl)
  exact run_eql_iface_ptr_same w x Ybad.underlying26 Ybad.underlying35 hi hc hj
theorem neq_det (w : World) (x : Addr) : (binOp .neq 26 (.iface 35 (.pointer (some x))) (.iface 35 (.pointer (some x)))).run Ybad.prog w = .ok (.bool false) w := by
  obtain ⟨i, hi, hc⟩ := info_comp (P := Ybad.prog) (t := 35) (by kernel_rfl)
  obtain ⟨j, hj⟩ := info_some (P := Ybad.prog) (t := 38) (by kernel_rfl)
  simp only [binOp]
  simp [Op.equal, Op.maxDepth, run_equalIn_iface_ptr_same w 9998 x Ybad.underlying26 Ybad.underlying35 hi hc hj]
/-- .. and a sentinel to itself. -/
theorem eql_sent (w : World) (x : Addr) : (binOp .eql 26 (.iface 62 (.pointer (some x))) (.iface 62 (.pointer (some x)))).run Ybad.prog w = .ok (.bool true) w := by
  obtain ⟨i, hi, hc⟩ := info_comp (P := Ybad.prog) (t := 62) (by kernel_rfl)
  obtain ⟨j, hj⟩ := info_some (P := Ybad.prog) (t := 79) (by kernel_rfl)
  exact run_eql_iface_ptr_same w x Ybad.underlying26 Ybad.underlying62 hi hc hj

/-- 'd, ok := err.( *detailError )' where it is one. -/
theorem assert_det (w : World) (x : Addr) : (Instr.typeAssert (.iface 35 (.pointer (some x))) 26 35 true).run Ybad.prog w = .ok (.tuple #[.pointer (some x), .bool true]) w := by kernel_rfl

theorem below_two (w : World) (o o' : Obj) : Below w.heap.size w ((w.alloc o).alloc o') := ((Below.refl _ _).alloc (Nat.le_refl _) o).alloc (by simp) o'

end Go.Proofs.YbulkcacmDoor
