/-
  The walks of the seat b3820a: the contract of server.newZset, and the laws that LawS3820BShape and LawS3820BFresh want.
-/
import Derived.Test.YbulkcabyRows
import Derived.WalkKit
import Derived.WalkSpells
import Derived.WalkLawsBesides
namespace Go.Proofs.Ybulkcaby
open Go.RowKit

/-- The 64 cells of 'make([]zsetLink, 32)': 32 links, each to nil with span 0. -/
def links : Array Value := ((List.range 64).map fun i => if i % 2 = 0 then Value.pointer none else Value.int .i64 0).toArray

theorem links_size : links.size = 64 := by simp [links]
theorem links_to (k : Nat) (h : k < 32) : links[k * 2]? = some (.pointer none) := by
  have h1 : k * 2 < 64 := by omega
  simp [links, h1]
theorem links_span (k : Nat) (h : k < 32) : links[k * 2 + 1]? = some (.int .i64 0) := by
  have h1 : k * 2 + 1 < 64 := by omega
  have h2 : (k * 2 + 1) % 2 = 1 := by omega
  simp [links, h1, h2]

theorem make_links (w : World) : (Instr.makeSlice 27 (.int .i64 32) (.int .i64 32)).run Yba.prog w = .ok (.slice (some ⟨w.heap.size, 0, none⟩) 32 32) (w.alloc (.cells links 34)) := by kernel_rfl

set_option maxHeartbeats 400000 in
theorem new_any (w : World) :
    Calls Yba.prog 7 #[] w fun e w' => e = .returned (.pointer (some ⟨w.heap.size + 1, 0, none⟩)) ∧
      ((w.alloc (.map #[] 0)).alloc (.cells #[.map (some w.heap.size), .string ⟨#[]⟩, .float .f64 0, .pointer none, .slice (some ⟨w.heap.size + 2, 0, none⟩) 32 32, .pointer none, .int .i64 1, .pointer none] 32)).alloc (.cells links 34) = w' := by
  have hmm := @run_makeMap Yba.prog
  have hmk := make_links
  go_enter Yba.func7, Yba.ntmps7
  go_wp2
  go_ret
  exact ⟨rfl, rfl⟩

/-- What is known of a world that holds a new sorted set at block n + 1 (its map at n, its head's links at n + 2). -/
structure Fresh (w : World) (n : Nat) : Prop where
  map : w.heap[n]? = some (.map #[] 0)
  set : w.heap[n + 1]? = some (.cells #[.map (some n), .string ⟨#[]⟩, .float .f64 0, .pointer none, .slice (some ⟨n + 2, 0, none⟩) 32 32, .pointer none, .int .i64 1, .pointer none] 32)
  row : w.heap[n + 2]? = some (.cells links 34)

theorem new_fresh (w : World) : Fresh (((w.alloc (.map #[] 0)).alloc (.cells #[.map (some w.heap.size), .string ⟨#[]⟩, .float .f64 0, .pointer none, .slice (some ⟨w.heap.size + 2, 0, none⟩) 32 32, .pointer none, .int .i64 1, .pointer none] 32)).alloc (.cells links 34)) w.heap.size := by
  refine ⟨?_, ?_, ?_⟩
  · rw [Below.heap_alloc _ _ _ (by simp; omega), Below.heap_alloc _ _ _ (by simp)]
    exact (MapKept.heap_alloc w _).1
  · rw [Below.heap_alloc _ _ _ (by simp)]
    have := (MapKept.heap_alloc (w.alloc (.map #[] 0)) (.cells #[.map (some w.heap.size), .string ⟨#[]⟩, .float .f64 0, .pointer none, .slice (some ⟨w.heap.size + 2, 0, none⟩) 32 32, .pointer none, .int .i64 1, .pointer none] 32)).1
    simpa using this
  · have := (MapKept.heap_alloc ((w.alloc (.map #[] 0)).alloc (.cells #[.map (some w.heap.size), .string ⟨#[]⟩, .float .f64 0, .pointer none, .slice (some ⟨w.heap.size + 2, 0, none⟩) 32 32, .pointer none, .int .i64 1, .pointer none] 32)) (.cells links 34)).1
    simpa using this

theorem new_at (w : World) :
    Calls Yba.prog 7 #[] w fun e w' => e = .returned (.pointer (some ⟨w.heap.size + 1, 0, none⟩)) ∧ Fresh w' w.heap.size ∧ Grown w w' ∧ w'.heap.size = w.heap.size + 3 ∧ Below w.heap.size w w' := by
  refine (new_any w).mono ?_
  rintro e w' ⟨rfl, rfl⟩
  refine ⟨rfl, new_fresh w, (((Grown.refl w).allocMap _ _).alloc _ _).alloc _ _, by simp, (((Below.refl _ _).alloc (Nat.le_refl _) _).alloc (by simp) _).alloc (by simp; omega) _⟩

theorem Fresh.c0 {w : World} {n : Nat} (h : Fresh w n) : w.cell? ⟨n + 1, 0, none⟩ = some (.map (some n)) := by simp [World.cell?, h.set]
theorem Fresh.c1 {w : World} {n : Nat} (h : Fresh w n) : w.cell? ⟨n + 1, 1, none⟩ = some (.string ⟨#[]⟩) := by simp [World.cell?, h.set]
theorem Fresh.c2 {w : World} {n : Nat} (h : Fresh w n) : w.cell? ⟨n + 1, 2, none⟩ = some (.float .f64 0) := by simp [World.cell?, h.set]
theorem Fresh.c3 {w : World} {n : Nat} (h : Fresh w n) : w.cell? ⟨n + 1, 3, none⟩ = some (.pointer none) := by simp [World.cell?, h.set]
theorem Fresh.c4 {w : World} {n : Nat} (h : Fresh w n) : w.cell? ⟨n + 1, 4, none⟩ = some (.slice (some ⟨n + 2, 0, none⟩) 32 32) := by simp [World.cell?, h.set]
theorem Fresh.c5 {w : World} {n : Nat} (h : Fresh w n) : w.cell? ⟨n + 1, 5, none⟩ = some (.pointer none) := by simp [World.cell?, h.set]
theorem Fresh.c6 {w : World} {n : Nat} (h : Fresh w n) : w.cell? ⟨n + 1, 6, none⟩ = some (.int .i64 1) := by simp [World.cell?, h.set]
theorem Fresh.c7 {w : World} {n : Nat} (h : Fresh w n) : w.cell? ⟨n + 1, 7, none⟩ = some (.pointer none) := by simp [World.cell?, h.set]
theorem Fresh.to {w : World} {n : Nat} (h : Fresh w n) (k : Nat) (hk : k < 32) : w.cell? ⟨n + 2, k * 2, none⟩ = some (.pointer none) := by simp [World.cell?, h.row, links_to k hk]
theorem Fresh.span {w : World} {n : Nat} (h : Fresh w n) (k : Nat) (hk : k < 32) : w.cell? ⟨n + 2, k * 2 + 1, none⟩ = some (.int .i64 0) := by simp [World.cell?, h.row, links_span k hk]

theorem Fresh.len {w : World} {n : Nat} (h : Fresh w n) : (Builtin.len_ #[24] 3 #[.map (some n)]).run Yba.prog w = .ok (.int .i64 0) w :=
  run_len_map (P := Yba.prog) w 24 3 n #[] 0 (by kernel_rfl) h.map

end Go.Proofs.Ybulkcaby
