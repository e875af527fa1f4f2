/-
  The walks of the seat b3817a: the contracts of pipeline.zzs3817anew, WithMaxExportBatchSize, its closure, zzs3817arest.
  The struct BatchProcessor has 3840 cells: no walk ever lays them out: they are a variable C of which eight cells are told.
-/
import Derived.Test.YbulkcaaiRows
import Derived.WalkKit
import Derived.Laws.Tables
import Derived.WalkSpells
namespace Go.Proofs.Ybulkcaai
open Go.RowKit

/-- What is told of the cells of a BatchProcessor. -/
structure BP (C : Array Value) (m q d t y : Int) : Prop where
  c0 : C[0]? = some .nilIface
  c1 : C[1]? = some (.int .i64 q)
  c2 : C[2]? = some (.int .i64 d)
  c3 : C[3]? = some (.int .i64 t)
  c4 : C[4]? = some (.int .i64 m)
  c5 : C[5]? = some (.int .u64 y)
  c6 : C[6]? = some (.slice none 0 0)
  c13 : C[13]? = some (.slice none 0 0)

theorem bp_some (m q d t y : Int) : (Yba.prog.built 49 [(1, .int .i64 q), (2, .int .i64 d), (3, .int .i64 t), (4, .int .i64 m), (5, .int .u64 y)]).isSome = true := by kernel_rfl
theorem bp_zero (m q d t y : Int) : BP ((Yba.prog.built 49 [(1, .int .i64 q), (2, .int .i64 d), (3, .int .i64 t), (4, .int .i64 m), (5, .int .u64 y)]).getD #[]) m q d t y :=
  ⟨by kernel_rfl, by kernel_rfl, by kernel_rfl, by kernel_rfl, by kernel_rfl, by kernel_rfl, by kernel_rfl, by kernel_rfl⟩

theorem bp_ex (m q d t y : Int) : ∃ C, Yba.prog.built 49 [(1, .int .i64 q), (2, .int .i64 d), (3, .int .i64 t), (4, .int .i64 m), (5, .int .u64 y)] = some C ∧ BP C m q d t y := by
  obtain ⟨C, hC⟩ := Option.isSome_iff_exists.1 (bp_some m q d t y)
  have h := bp_zero m q d t y
  rw [hC] at h
  exact ⟨C, hC, h⟩

theorem wpList_built {P : Program} {ops : Array Oper} {rest : List Oper} {o : Oper} {a : Act} {w : World} {Q : Exit → Act → World → Prop} (hg : o.guard = none) (t : TypeId) (parts : Array (Nat × Operand)) (ho : o.op = .build t parts)
    (C : Array Value) (hf : P.built t (parts.map fun (i, x) => (i, a.eval x)).toList = some C)
    (h : wpList P ops Q rest (a.put o.dst (.agg C)) w) : wpList P ops Q (o :: rest) a w :=
  wpList_build hg t parts ho (by rw [hf]; rfl) (by rw [hf]; exact h)

set_option maxHeartbeats 400000 in
theorem new_any (m q d t y : Int) (w : World) :
    Calls Yba.prog 5 #[.int .i64 m, .int .i64 q, .int .i64 d, .int .i64 t, .int .u64 y] w fun e w' => ∃ C, BP C m q d t y ∧ e = .returned (.pointer (some ⟨w.heap.size, 0, none⟩)) ∧ w.alloc (.cells C 49) = w' := by
  obtain ⟨C, hC, hbp⟩ := bp_ex m q d t y
  have HC : Hid _ := hC
  clear hC
  go_enter Yba.func5, Yba.ntmps5
  go_wp2_with (show wpList _ _ _ (Oper.mk _ (.build 49 _) _ _ _ _ :: _) _ _; refine wpList_built rfl 49 #[(1, .tmp 11), (2, .tmp 12), (3, .tmp 13), (4, .tmp 14), (5, .tmp 15)] rfl C ?hb ?_)
  case hb => go_simp; exact HC.out
  go_ret
  exact ⟨C, hbp, rfl, rfl⟩


set_option maxHeartbeats 400000 in
theorem opt_any (n : Int) (w : World) :
    Calls Yba.prog 6 #[.int .i64 n] w fun e w' => e = .returned (.func (.func 8) #[] #[.pointer (some ⟨w.heap.size, 0, none⟩)]) ∧ w.alloc (.cells #[.int .i64 n] 3) = w' := by
  go_enter Yba.func6, Yba.ntmps6
  go_wp2
  go_ret
  exact ⟨rfl, rfl⟩

set_option maxRecDepth 100000 in
set_option maxHeartbeats 400000 in
theorem rest_any (b : Nat) (m q d t y : Int) (w : World) (C : Array Value) (ho : w.heap[b]? = some (.cells C 49)) (hbp : BP C m q d t y) :
    Calls Yba.prog 7 #[.pointer (some ⟨b, 0, none⟩), .int .i64 q, .int .i64 d, .int .i64 t, .int .u64 y] w fun e w' => e = .returned (.bool true) ∧ w = w' := by
  have h0 : w.cell? ⟨b, 0, none⟩ = some .nilIface := by simp [World.cell?, ho, hbp.c0]
  have h1 : w.cell? ⟨b, 1, none⟩ = some (.int .i64 q) := by simp [World.cell?, ho, hbp.c1]
  have h2 : w.cell? ⟨b, 2, none⟩ = some (.int .i64 d) := by simp [World.cell?, ho, hbp.c2]
  have h3 : w.cell? ⟨b, 3, none⟩ = some (.int .i64 t) := by simp [World.cell?, ho, hbp.c3]
  have h5 : w.cell? ⟨b, 5, none⟩ = some (.int .u64 y) := by simp [World.cell?, ho, hbp.c5]
  have h6 : w.cell? ⟨b, 6, none⟩ = some (.slice none 0 0) := by simp [World.cell?, ho, hbp.c6]
  have h13 : w.cell? ⟨b, 13, none⟩ = some (.slice none 0 0) := by simp [World.cell?, ho, hbp.c13]
  have hs31 := fun wx => Lib.run_eql_slice_nil (P := Yba.prog) wx 31 _ none 0 0 0 0 Yba.underlying31
  have hs38 := fun wx => Lib.run_eql_slice_nil (P := Yba.prog) wx 38 _ none 0 0 0 0 Yba.underlying38
  clear ho hbp
  go_enter Yba.func7, Yba.ntmps7
  go_wp2
  go_ret
  exact ⟨rfl, rfl⟩

/-- The closure, at a positive n: maxBatch is n. -/
theorem clo_pos (b c : Nat) (n : Int) (w : World) (v : Value) (h4 : w.cell? ⟨b, 4, none⟩ = some v) (hf : w.frozen? ⟨b, 4, none⟩ = false) (hc : w.cell? ⟨c, 0, none⟩ = some (.int .i64 n)) (hn : 0 < n) :
    Calls Yba.prog 8 #[.pointer (some ⟨b, 0, none⟩), .pointer (some ⟨c, 0, none⟩)] w fun e w' => e = .returned (.tuple #[]) ∧ w.setCell ⟨b, 4, none⟩ (.int .i64 n) = w' := by
  go_enter Yba.func8, Yba.ntmps8
  go_wp2
  go_end0
  exact ⟨rfl, rfl⟩

/-- The closure, at any other n: nothing. -/
theorem clo_not (b c : Nat) (n : Int) (w : World) (hc : w.cell? ⟨c, 0, none⟩ = some (.int .i64 n)) (hn : ¬ 0 < n) :
    Calls Yba.prog 8 #[.pointer (some ⟨b, 0, none⟩), .pointer (some ⟨c, 0, none⟩)] w fun e w' => e = .returned (.tuple #[]) ∧ w = w' := by
  go_enter Yba.func8, Yba.ntmps8
  go_wp2
  go_end0
  exact ⟨rfl, rfl⟩

theorem BP.set {C : Array Value} {m q d t y : Int} (h : BP C m q d t y) (n : Int) : BP (C.setIfInBounds 4 (.int .i64 n)) n q d t y := by
  have hs : 4 < C.size := by
    have := h.c4
    rcases Nat.lt_or_ge 4 C.size with g | g
    · exact g
    · rw [Array.getElem?_eq_none g] at this; cases this
  refine ⟨?_, ?_, ?_, ?_, ?_, ?_, ?_, ?_⟩
  · rw [Array.getElem?_setIfInBounds_ne (by decide)]; exact h.c0
  · rw [Array.getElem?_setIfInBounds_ne (by decide)]; exact h.c1
  · rw [Array.getElem?_setIfInBounds_ne (by decide)]; exact h.c2
  · rw [Array.getElem?_setIfInBounds_ne (by decide)]; exact h.c3
  · rw [Array.getElem?_setIfInBounds_self_of_lt hs]
  · rw [Array.getElem?_setIfInBounds_ne (by decide)]; exact h.c5
  · rw [Array.getElem?_setIfInBounds_ne (by decide)]; exact h.c6
  · rw [Array.getElem?_setIfInBounds_ne (by decide)]; exact h.c13

/-- The world holds at block b a BatchProcessor. -/
structure At (w : World) (b : Nat) (m q d t y : Int) : Prop where
  ex : ∃ C, w.heap[b]? = some (.cells C 49) ∧ BP C m q d t y

theorem At.cell4 {w : World} {b : Nat} {m q d t y : Int} (h : At w b m q d t y) : w.cell? ⟨b, 4, none⟩ = some (.int .i64 m) := by
  obtain ⟨C, ho, hb⟩ := h.ex
  simp [World.cell?, ho, hb.c4]
theorem At.free4 {w : World} {b : Nat} {m q d t y : Int} (h : At w b m q d t y) : w.frozen? ⟨b, 4, none⟩ = false := by
  obtain ⟨C, ho, hb⟩ := h.ex
  simp [World.frozen?, ho]
theorem At.set {w : World} {b : Nat} {m q d t y : Int} (h : At w b m q d t y) (n : Int) : At (w.setCell ⟨b, 4, none⟩ (.int .i64 n)) b n q d t y := by
  obtain ⟨C, ho, hb⟩ := h.ex
  refine ⟨_, ?_, hb.set n⟩
  rw [setCell_eq_setRow w b 4 C 49 (0, 0) _ ho]
  exact setRow_heap w b C _ 49 (0, 0) ho
theorem At.alloc {w : World} {b : Nat} {m q d t y : Int} (h : At w b m q d t y) (o : Obj) : At (w.alloc o) b m q d t y := by
  obtain ⟨C, ho, hb⟩ := h.ex
  refine ⟨C, ?_, hb⟩
  rw [Below.heap_alloc w o b (Array.getElem?_eq_some_iff.1 ho).1]
  exact ho
theorem At.new {m q d t y : Int} (w : World) (C : Array Value) (hb : BP C m q d t y) : At (w.alloc (.cells C 49)) w.heap.size m q d t y :=
  ⟨C, (MapKept.heap_alloc w _).1, hb⟩

theorem rest_at (b : Nat) (m q d t y : Int) (w : World) (h : At w b m q d t y) :
    Calls Yba.prog 7 #[.pointer (some ⟨b, 0, none⟩), .int .i64 q, .int .i64 d, .int .i64 t, .int .u64 y] w fun e w' => e = .returned (.bool true) ∧ w = w' := by
  obtain ⟨C, ho, hb⟩ := h.ex
  exact rest_any b m q d t y w C ho hb

/-- The closure, whatever n. -/
theorem clo_any (b c : Nat) (n m q d t y : Int) (w : World) (h : At w b m q d t y) (hc : w.cell? ⟨c, 0, none⟩ = some (.int .i64 n)) :
    Calls Yba.prog 8 #[.pointer (some ⟨b, 0, none⟩), .pointer (some ⟨c, 0, none⟩)] w fun e w' => e = .returned (.tuple #[]) ∧ At w' b (if 0 < n then n else m) q d t y ∧ (w' = w ∨ w' = w.setCell ⟨b, 4, none⟩ (.int .i64 n)) := by
  by_cases hn : 0 < n
  · refine (clo_pos b c n w _ h.cell4 h.free4 hc hn).mono ?_
    rintro e w' ⟨rfl, rfl⟩
    rw [if_pos hn]
    exact ⟨rfl, h.set n, Or.inr rfl⟩
  · refine (clo_not b c n w hc hn).mono ?_
    rintro e w' ⟨rfl, rfl⟩
    rw [if_neg hn]
    exact ⟨rfl, h, Or.inl rfl⟩

theorem new_at (m q d t y : Int) (w : World) :
    Calls Yba.prog 5 #[.int .i64 m, .int .i64 q, .int .i64 d, .int .i64 t, .int .u64 y] w fun e w' => e = .returned (.pointer (some ⟨w.heap.size, 0, none⟩)) ∧ At w' w.heap.size m q d t y ∧ Grown w w' := by
  refine (new_any m q d t y w).mono ?_
  rintro e w' ⟨C, hb, rfl, rfl⟩
  exact ⟨rfl, At.new w C hb, (Grown.refl w).alloc _ _⟩

theorem opt_at (b : Nat) (n m q d t y : Int) (W w : World) (h : At w b m q d t y) (hg : Grown W w) :
    Calls Yba.prog 6 #[.int .i64 n] w fun e w' => e = .returned (.func (.func 8) #[] #[.pointer (some ⟨w.heap.size, 0, none⟩)]) ∧ w'.cell? ⟨w.heap.size, 0, none⟩ = some (.int .i64 n) ∧ At w' b m q d t y ∧ Grown W w' := by
  refine (opt_any n w).mono ?_
  rintro e w' ⟨rfl, rfl⟩
  exact ⟨rfl, by simp, h.alloc _, hg.alloc _ _⟩

theorem clo_at (b c : Nat) (n m q d t y : Int) (W w : World) (h : At w b m q d t y) (hc : w.cell? ⟨c, 0, none⟩ = some (.int .i64 n)) (hB : W.heap.size ≤ b) (hg : Grown W w) :
    Calls Yba.prog 8 #[.pointer (some ⟨b, 0, none⟩), .pointer (some ⟨c, 0, none⟩)] w fun e w' => e = .returned (.tuple #[]) ∧ At w' b (if 0 < n then n else m) q d t y ∧ Grown W w' := by
  refine (clo_any b c n m q d t y w h hc).mono ?_
  rintro e w' ⟨rfl, ha, rfl | rfl⟩
  · exact ⟨rfl, ha, hg⟩
  · exact ⟨rfl, ha, hg.setCell hB _⟩

/-- 'f == nil' at a function value that is not nil. -/
theorem eql_func_nil (w : World) (fn : Fn) (fi ca : Array Value) : (binOp .eql 26 (.func fn fi ca) .nilFunc).run Yba.prog w = .ok (.bool false) w := by kernel_rfl

end Go.Proofs.Ybulkcaai
