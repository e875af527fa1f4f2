/-
  Laws on a map of strings to pointers that holds nothing, or one entry: what an update, a look-up and len do there.
-/
import Derived.Test.YbulkcabyWalks
import Derived.ChangeMaps5
import Derived.MapKept
import Derived.LaidEqlPtr
namespace Go.Proofs.Ybulkcaby
open Go.RowKit

/-- The one entry. -/
def one (s : ByteArray) (v : Value) : Array MapEntry := #[{ key := .string s, val := v, born := 0 }]

theorem check_string (w : World) (s : ByteArray) (e : Bool) : (Instr.checkKey e 10000 9 (.string s)).run Yba.prog w = .ok () w :=
  MapKept.run_checkKey Yba.underlying9 (k := .string s) trivial e 9999

theorem upd_empty (w : World) (n : Nat) (s : ByteArray) (v : Value) (hm : w.heap[n]? = some (.map #[] 0)) :
    (Instr.mapUpdate 24 (.map (some n)) (.string s) v).run Yba.prog w = .ok () (ChangeMaps.setBlock w n (.map (one s v) 1)) := by
  simp [Instr.mapUpdate, run_underlying Yba.underlying24, MapKept.run_getObj_map hm, check_string w s, MapKept.run_findKey Yba.underlying9 (k := .string s) (l := []) rfl, MapKept.run_setObj_map _ hm, ChangeMaps.setBlock, one]

theorem look_empty (w : World) (n : Nat) (s : ByteArray) (hm : w.heap[n]? = some (.map #[] 0)) :
    (Instr.lookup 24 (.map (some n)) (.string s) true).run Yba.prog w = .ok (.tuple #[.pointer none, .bool false]) w := by
  simp [Instr.lookup, run_underlying Yba.underlying24, MapKept.run_getObj_map hm, check_string w s, MapKept.run_findKey Yba.underlying9 (k := .string s) (l := []) rfl]

theorem look_one (w : World) (n c : Nat) (s : ByteArray) (v : Value) (hm : w.heap[n]? = some (.map (one s v) c)) :
    (Instr.lookup 24 (.map (some n)) (.string s) false).run Yba.prog w = .ok v w := by
  have hf : Instr.findNow .string (.string s) (one s v).toList 0 = some (some (0, v)) := by
    have e : (s == s) = true := by rw [beq_toListBytes]; simp
    simp [Instr.findNow, Instr.sameNow, one, e]
  simp [Instr.lookup, run_underlying Yba.underlying24, MapKept.run_getObj_map hm, check_string w s, MapKept.run_findKey Yba.underlying9 hf]

/-- A store into a cell turns no map. -/
theorem map_setCell {w : World} {n : Nat} {es : Array MapEntry} {c : Nat} (h : w.heap[n]? = some (.map es c)) (a : Addr) (v : Value) : (w.setCell a v).heap[n]? = some (.map es c) := by
  simp only [World.setCell, Array.getElem?_modify]
  split <;> simp [h]
theorem map_alloc {w : World} {n : Nat} {es : Array MapEntry} {c : Nat} (h : w.heap[n]? = some (.map es c)) (o : Obj) : (w.alloc o).heap[n]? = some (.map es c) := by
  rw [Below.heap_alloc w o n (Array.getElem?_eq_some_iff.1 h).1]
  exact h

theorem cell_setBlock {w : World} {n : Nat} {es es' : Array MapEntry} {c c' : Nat} (h : w.heap[n]? = some (.map es c)) (a : Addr) : (ChangeMaps.setBlock w n (.map es' c')).cell? a = w.cell? a := by
  by_cases e : a.block = n
  · simp [World.cell?, e, h, ChangeMaps.heap_setBlock_same h]
  · simp [World.cell?, ChangeMaps.heap_setBlock_other h _ e]

theorem Fresh.below {w w' : World} {n B : Nat} (h : Fresh w n) (hb : Below B w w') (hB : n + 3 ≤ B) : Fresh w' n :=
  ⟨by rw [hb.block n (by omega)]; exact h.map, by rw [hb.block (n + 1) (by omega)]; exact h.set, by rw [hb.block (n + 2) (by omega)]; exact h.row⟩

theorem info_size {P : Program} {t : TypeId} {n : Nat} (h : (P.info? t).map (·.size) = some n) : ∃ j, P.info? t = some j ∧ j.size = n := by
  cases hj : P.info? t with
  | none => rw [hj] at h; cases h
  | some j => rw [hj] at h; simp at h; exact ⟨j, rfl, h⟩

/-- Two sorted sets at two blocks are two. -/
theorem eql_sets {w : World} {n m : Nat} (h : Fresh w n) (h' : Fresh w m) (hne : n ≠ m) : (binOp .eql 22 (.pointer (some ⟨n + 1, 0, none⟩)) (.pointer (some ⟨m + 1, 0, none⟩))).run Yba.prog w = .ok (.bool false) w := by
  obtain ⟨j, hj, hs⟩ := info_size (P := Yba.prog) (t := 32) (n := 8) (by kernel_rfl)
  exact run_eql_ptr_other w Yba.underlying22 hj (by omega) (by simp) h.set h'.set

/-- A node is itself. -/
theorem eql_node (w : World) (a : Addr) : (binOp .eql 26 (.pointer (some a)) (.pointer (some a))).run Yba.prog w = .ok (.bool true) w := by
  obtain ⟨j, hj, _⟩ := info_size (P := Yba.prog) (t := 29) (n := 4) (by kernel_rfl)
  exact run_eql_ptr_same w a Yba.underlying26 hj

theorem len_empty (w : World) (n : Nat) (h : w.heap[n]? = some (.map #[] 0)) : (Builtin.len_ #[24] 3 #[.map (some n)]).run Yba.prog w = .ok (.int .i64 0) w :=
  run_len_map (P := Yba.prog) w 24 3 n #[] 0 (by kernel_rfl) h

/-- Behind 'm[s] = v' on an empty map at block n: that block holds the one entry; every cell is as it was. -/
structure Upd (w w' : World) (n : Nat) (s : ByteArray) (v : Value) : Prop where
  map : w'.heap[n]? = some (.map (one s v) 1)
  other : ∀ i, i ≠ n → w'.heap[i]? = w.heap[i]?
  cell : ∀ a, w'.cell? a = w.cell? a
  frozen : ∀ a, w'.frozen? a = w.frozen? a
  size : w'.heap.size = w.heap.size
  os : w'.os = w.os
  output : w'.output = w.output

theorem wpList_upd (w : World) {ops : Array Oper} {rest : List Oper} {o : Oper} {a : Act} {Q : Exit → Act → World → Prop}
    (hg : o.guard = none) (m x v : Operand) (hop : o.op = Op.mapUpdate 24 m x v) (n : Nat) (s : ByteArray) (u : Value)
    (hm : a.eval m = .map (some n)) (hx : a.eval x = .string s) (hv : a.eval v = u) (hb : w.heap[n]? = some (.map #[] 0))
    (hK : ∀ w', Upd w w' n s u → wpList Yba.prog ops Q rest (a.put o.dst undef) w') :
    wpList Yba.prog ops Q (o :: rest) a w := by
  refine wpList_plain hg fun K' hK' => ?_
  unfold Oper.wp
  simp [execOp, hop, hm, hx, hv, upd_empty w n s u hb, Result.andThen]
  exact hK' _ _ (hK _ ⟨ChangeMaps.heap_setBlock_same hb _, fun i hi => ChangeMaps.heap_setBlock_other hb _ hi, cell_setBlock hb, ChangeMaps.frozen?_setBlock hb, by simp [ChangeMaps.setBlock], rfl, rfl⟩)

theorem Upd.grown {W w w' : World} {n : Nat} {s : ByteArray} {v : Value} (h : Upd w w' n s v) (hg : Grown W w) (hn : W.heap.size ≤ n) : Grown W w' := by
  obtain ⟨⟨h1, h2, h3⟩, hf, hs⟩ := hg
  refine ⟨⟨h.os.trans h1, h.output.trans h2, fun i hi => ?_⟩, fun x => (h.frozen x).trans (hf x), by rw [h.size]; exact hs⟩
  rw [h.other i (by omega)]
  exact h3 i hi

/-- What stands behind the update: the first set (its map at n), the second (its map at n + 3), the node at n + 6; 'k': the link that is written. -/
structure Mid (w : World) (n k : Nat) (s : ByteArray) : Prop where
  m1 : w.heap[n]? = some (.map (one s (.pointer (some ⟨n + 3 + 3, 0, none⟩))) 1)
  m2 : w.heap[n + 3]? = some (.map #[] 0)
  c0 : w.cell? ⟨n + 1, 0, none⟩ = some (.map (some n))
  c4 : w.cell? ⟨n + 1, 4, none⟩ = some (.slice (some ⟨n + 2, 0, none⟩) 32 32)
  c5 : w.cell? ⟨n + 1, 5, none⟩ = some (.pointer none)
  t1 : w.cell? ⟨n + 2, k * 2, none⟩ = some (.pointer none)
  s1 : w.cell? ⟨n + 2, k * 2 + 1, none⟩ = some (.int .i64 0)
  d0 : w.cell? ⟨n + 3 + 1, 0, none⟩ = some (.map (some (n + 3)))
  d4 : w.cell? ⟨n + 3 + 1, 4, none⟩ = some (.slice (some ⟨n + 3 + 2, 0, none⟩) 32 32)
  d5 : w.cell? ⟨n + 3 + 1, 5, none⟩ = some (.pointer none)
  d6 : w.cell? ⟨n + 3 + 1, 6, none⟩ = some (.int .i64 1)
  t2 : w.cell? ⟨n + 3 + 2, k * 2, none⟩ = some (.pointer none)
  s2 : w.cell? ⟨n + 3 + 2, k * 2 + 1, none⟩ = some (.int .i64 0)
  f5 : w.frozen? ⟨n + 1, 5, none⟩ = false
  ft : w.frozen? ⟨n + 2, k * 2, none⟩ = false
  fs : w.frozen? ⟨n + 2, k * 2 + 1, none⟩ = false

theorem Fresh.alloc {w : World} {n : Nat} (h : Fresh w n) (o : Obj) : Fresh (w.alloc o) n :=
  ⟨map_alloc h.map o, by rw [Below.heap_alloc w o _ (Array.getElem?_eq_some_iff.1 h.set).1]; exact h.set, by rw [Below.heap_alloc w o _ (Array.getElem?_eq_some_iff.1 h.row).1]; exact h.row⟩

theorem mid_of {w w' : World} {n k : Nat} {s : ByteArray} (h : Fresh w n) (h2 : Fresh w (n + 3)) (hk : k < 32) (hu : Upd w w' n s (.pointer (some ⟨n + 3 + 3, 0, none⟩))) : Mid w' n k s := by
  refine ⟨hu.map, by rw [hu.other _ (by omega)]; exact h2.map, ?_, ?_, ?_, ?_, ?_, ?_, ?_, ?_, ?_, ?_, ?_, ?_, ?_, ?_⟩
  · rw [hu.cell]; exact h.c0
  · rw [hu.cell]; exact h.c4
  · rw [hu.cell]; exact h.c5
  · rw [hu.cell]; exact h.to k hk
  · rw [hu.cell]; exact h.span k hk
  · rw [hu.cell]; exact h2.c0
  · rw [hu.cell]; exact h2.c4
  · rw [hu.cell]; exact h2.c5
  · rw [hu.cell]; exact h2.c6
  · rw [hu.cell]; exact h2.to k hk
  · rw [hu.cell]; exact h2.span k hk
  · rw [hu.frozen]; simp [World.frozen?, h.set]
  · rw [hu.frozen]; simp [World.frozen?, h.row]
  · rw [hu.frozen]; simp [World.frozen?, h.row]

end Go.Proofs.Ybulkcaby
