/-
  The walks of the seat b3826a: the contracts of (*zzs3826cobs).Observe and (*config).report.
-/
import Derived.Test.YbulkcafeRows
import Derived.WalkKit
import Derived.WalkSpells
import Derived.WalkLawsBesides
import Derived.OwnWalk
import Derived.Below
import Derived.LaidEql
import Derived.Deep.RegionLaw
import Derived.Deep.AppendLies
namespace Go.Proofs.Ybulkcafe
open Go.RowKit

theorem Yba.info39 : (Yba.prog.info? 39).map (fun i => (i.zero, i.size, i.bytes)) = some (some (.agg #[.int .i64 0, .int .i64 0, .string ⟨#[]⟩, .int .i64 0, .int .i64 0, .int .i64 0, .int .i64 0]), 7, 64) := by kernel_rfl

theorem two_new (w : World) (o : Obj) : ((w.alloc o).alloc o).heap[w.heap.size + 1]? = some o := by
  have := (MapKept.heap_alloc (w.alloc o) o).1
  simpa using this

theorem after_cell (b : Nat) (o o' : Obj) (r : Value) (w w1 : World) (hg : ((w.alloc o).alloc o').drew.grownBy w1 (Value.slice none 0 0).ownBlock) (hb : b < w.heap.size) (hc : w.cell? ⟨b, 0, none⟩ = some r) : w1.cell? ⟨b, 0, none⟩ = some r := by
  rw [hg.cell_far ⟨b, 0, none⟩ (by show b < ((w.alloc o).alloc o').heap.size; simp; omega) (by simp [Value.ownBlock])]
  show ((w.alloc o).alloc o').cell? _ = _
  rw [World.cell?_alloc_past _ _ _ (by simp; omega), World.cell?_alloc_past _ _ _ hb]
  exact hc
theorem after_frozen (b : Nat) (o o' : Obj) (r : Bool) (w w1 : World) (hg : ((w.alloc o).alloc o').drew.grownBy w1 (Value.slice none 0 0).ownBlock) (hb : b < w.heap.size) (hc : w.frozen? ⟨b, 0, none⟩ = r) : w1.frozen? ⟨b, 0, none⟩ = r := by
  rw [hg.frozen_far ⟨b, 0, none⟩ (by show b < ((w.alloc o).alloc o').heap.size; simp; omega) (by simp [Value.ownBlock])]
  show ((w.alloc o).alloc o').frozen? _ = _
  rw [World.frozen?_alloc_old _ _ _ (by simp; omega), World.frozen?_alloc_old _ _ _ (by simp; omega)]
  exact hc

set_option maxRecDepth 100000 in
set_option maxHeartbeats 3200000 in
theorem observe_any (b : Nat) (k l : Int) (w : World) (hb : b < w.heap.size) (hc : w.cell? ⟨b, 0, none⟩ = some (.slice none 0 0)) (hf : w.frozen? ⟨b, 0, none⟩ = false) :
    Calls Yba.prog 23 #[.pointer (some ⟨b, 0, none⟩), .agg #[.int .i64 k, .int .i64 4, .string ⟨#[]⟩, .int .i64 l, .int .i64 0, .int .i64 0, .int .i64 0]] w fun e w' => e = .returned (.tuple #[]) ∧ ∃ g cap w1,
      w1.ownsRow (w.heap.size + 2) 39 7 (.slice (some ⟨g, 0, none⟩) 1 cap) 1 [.int .i64 k, .int .i64 4, .string ⟨#[]⟩, .int .i64 l, .int .i64 0, .int .i64 0, .int .i64 0] ∧ Below w.heap.size w w1 ∧ w1.setCell ⟨b, 0, none⟩ (.slice (some ⟨g, 0, none⟩) 1 cap) = w' := by
  obtain ⟨i0, hi0, hz0, hz1, hz2⟩ := info_parts Yba.info39
  have hne : ¬ b = w.heap.size := by omega
  have hne1 : ¬ b = w.heap.size + 1 := by omega
  have HN : Hid _ := two_new w (.cells #[.int .i64 k, .int .i64 4, .string ⟨#[]⟩, .int .i64 l, .int .i64 0, .int .i64 0, .int .i64 0] 39)
  have hfa := frozen?_alloc_cells
  have hfd : ∀ (w : World) a, w.drew.frozen? a = w.frozen? a := fun _ _ => rfl
  go_enter Yba.func23, Yba.ntmps23
  go_wp2_with fail
  go_region_law
    ((refine step_append_lies _ (by rfl) _ _ _ (by rfl) (w.heap.size + 2) 39 i0 _ 7 64 Yba.underlying26 hi0 hz0 hz1 hz2 rfl (by omega) (.slice none 0 0) 0 [] (by rfl) (World.ownsRow_nil _ _ _ _)
        ⟨w.heap.size + 1, 0, none⟩ 1 1 [.int .i64 k, .int .i64 4, .string ⟨#[]⟩, .int .i64 l, .int .i64 0, .int .i64 0, .int .i64 0] (by rfl) (by rfl) (World.news_of_block (cs := #[.int .i64 k, .int .i64 4, .string ⟨#[]⟩, .int .i64 l, .int .i64 0, .int .i64 0, .int .i64 0]) (t := 39) (fr := (0, 0)) (by exact HN.out)) (by simp [Value.oneCell'])
        (by omega) (by decide) (by decide) (by simp) (w.heap.size + 2) (by simp) ?_; intro g cap w1 hown1 hgrow hat hlt; have hcw := after_cell b _ _ _ w w1 hgrow hb hc; have hfw := after_frozen b _ _ _ w w1 hgrow hb hf))
  all_goals go_end0
  all_goals exact ⟨rfl, g, cap, w1, hown1, (((Below.refl _ _).alloc (Nat.le_refl _) _).alloc (by simp) _).drew.grown hgrow (by show w.heap.size ≤ ((w.alloc _).alloc _).heap.size; simp; omega) (by simp [Value.ownBlock]), rfl⟩

set_option maxRecDepth 100000 in
set_option maxHeartbeats 1000000 in
/-- No observer: report does nothing. -/
theorem report_none (c : Nat) (k l : Int) (w : World) (hc : w.cell? ⟨c, 3, none⟩ = some .nilIface) :
    Calls Yba.prog 4 #[.pointer (some ⟨c, 0, none⟩), .int .i64 k, .int .i64 l] w fun e w' => e = .returned (.tuple #[]) ∧ w = w' := by
  go_enter Yba.func4, Yba.ntmps4
  go_wp2
  go_end0
  exact ⟨rfl, rfl⟩

theorem method_obs (x : Addr) (w : World) : (method 164 25 (.pointer (some x)) "Observe").run Yba.prog w = .ok (23, .pointer (some x)) w := by kernel_rfl

set_option maxRecDepth 100000 in
set_option maxHeartbeats 1000000 in
/-- The law's observer: it is handed one event. -/
theorem report_some (c b : Nat) (k l : Int) (w : World) (hc : w.cell? ⟨c, 3, none⟩ = some (.iface 25 (.pointer (some ⟨b, 0, none⟩)))) (hb : b < w.heap.size) (hg : w.cell? ⟨b, 0, none⟩ = some (.slice none 0 0)) (hf : w.frozen? ⟨b, 0, none⟩ = false) :
    Calls Yba.prog 4 #[.pointer (some ⟨c, 0, none⟩), .int .i64 k, .int .i64 l] w fun e w' => e = .returned (.tuple #[]) ∧ ∃ g cap w1,
      w1.ownsRow (w.heap.size + 2) 39 7 (.slice (some ⟨g, 0, none⟩) 1 cap) 1 [.int .i64 k, .int .i64 4, .string ⟨#[]⟩, .int .i64 l, .int .i64 0, .int .i64 0, .int .i64 0] ∧ Below w.heap.size w w1 ∧ w1.setCell ⟨b, 0, none⟩ (.slice (some ⟨g, 0, none⟩) 1 cap) = w' := by
  have hmo := method_obs
  go_enter Yba.func4, Yba.ntmps4
  go_wp2_with fail
  refine (observe_any b k l w hb hg hf).mono ?_
  rintro e w' ⟨rfl, g, cap, w1, hown, hbel, rfl⟩
  go_wp2_with fail
  go_end0
  exact ⟨rfl, g, cap, w1, hown, hbel, rfl⟩

theorem info_comp {P : Program} {t : TypeId} (h : (P.info? t).map (·.comparable) = some true) : ∃ i, P.info? t = some i ∧ i.comparable = true := by
  cases hj : P.info? t with
  | none => rw [hj] at h; cases h
  | some j => rw [hj] at h; simp at h; exact ⟨j, rfl, h⟩
theorem info_some {P : Program} {t : TypeId} (h : (P.info? t).isSome = true) : ∃ i, P.info? t = some i := Option.isSome_iff_exists.1 h

/-- One and the same observer is not another. -/
theorem neq_obs (w : World) (x : Addr) : (binOp .neq 31 (.iface 25 (.pointer (some x))) (.iface 25 (.pointer (some x)))).run Yba.prog w = .ok (.bool false) w := by
  obtain ⟨i, hi, hc⟩ := info_comp (P := Yba.prog) (t := 25) (by kernel_rfl)
  obtain ⟨j, hj⟩ := info_some (P := Yba.prog) (t := 28) (by kernel_rfl)
  simp only [binOp]
  simp [Op.equal, Op.maxDepth, run_equalIn_iface_ptr_same w 9998 x Yba.underlying31 Yba.underlying25 hi hc hj]

/-- What stands behind the report, the law's observer registered: N: the block of the limits; the observer is the next block, the config the one behind it. -/
structure Told (w : World) (N : Nat) (k l x y z : Int) (g cap : Nat) : Prop where
  l0 : w.cell? ⟨N, 0, none⟩ = some (.int .i64 x)
  l1 : w.cell? ⟨N, 1, none⟩ = some (.int .i64 y)
  l2 : w.cell? ⟨N, 2, none⟩ = some (.int .i64 z)
  c0 : w.cell? ⟨N + 1 + 1, 0, none⟩ = some (.int .i64 x)
  c1 : w.cell? ⟨N + 1 + 1, 1, none⟩ = some (.int .i64 y)
  c2 : w.cell? ⟨N + 1 + 1, 2, none⟩ = some (.int .i64 z)
  c3 : w.cell? ⟨N + 1 + 1, 3, none⟩ = some (.iface 25 (.pointer (some ⟨N + 1, 0, none⟩)))
  o : w.cell? ⟨N + 1, 0, none⟩ = some (.slice (some ⟨g, 0, none⟩) 1 cap)
  e0 : w.cell? ⟨g, 0, none⟩ = some (.int .i64 k)
  e1 : w.cell? ⟨g, 1, none⟩ = some (.int .i64 4)
  e2 : w.cell? ⟨g, 2, none⟩ = some (.string ⟨#[]⟩)
  e3 : w.cell? ⟨g, 3, none⟩ = some (.int .i64 l)
  e4 : w.cell? ⟨g, 4, none⟩ = some (.int .i64 0)
  e5 : w.cell? ⟨g, 5, none⟩ = some (.int .i64 0)
  e6 : w.cell? ⟨g, 6, none⟩ = some (.int .i64 0)

theorem told_of (w w1 : World) (k l x y z : Int) (g cap : Nat) (B : Nat) (hB : B = w.heap.size + 3 + 2)
    (hown : w1.ownsRow B 39 7 (.slice (some ⟨g, 0, none⟩) 1 cap) 1 [.int .i64 k, .int .i64 4, .string ⟨#[]⟩, .int .i64 l, .int .i64 0, .int .i64 0, .int .i64 0])
    (hb : Below (((w.alloc (.cells #[.int .i64 x, .int .i64 y, .int .i64 z] 24)).alloc (.cells #[.slice none 0 0] 28)).alloc (.cells #[.int .i64 x, .int .i64 y, .int .i64 z, .iface 25 (.pointer (some ⟨w.heap.size + 1, 0, none⟩))] 33)).heap.size
      (((w.alloc (.cells #[.int .i64 x, .int .i64 y, .int .i64 z] 24)).alloc (.cells #[.slice none 0 0] 28)).alloc (.cells #[.int .i64 x, .int .i64 y, .int .i64 z, .iface 25 (.pointer (some ⟨w.heap.size + 1, 0, none⟩))] 33)) w1) :
    Told (w1.setCell ⟨w.heap.size + 1, 0, none⟩ (.slice (some ⟨g, 0, none⟩) 1 cap)) w.heap.size k l x y z g cap := by
  obtain ⟨_, ⟨h, _⟩ | ⟨g', cap', cur, hv, hg, hh, _, _, _, ht⟩⟩ := hown
  · cases h
  · simp at hv
    obtain ⟨rfl, rfl⟩ := hv
    have hcur : ∀ j, j < 7 → w1.cell? ⟨g, j, none⟩ = [Value.int .i64 k, .int .i64 4, .string ⟨#[]⟩, .int .i64 l, .int .i64 0, .int .i64 0, .int .i64 0][j]? := fun j hj => by
      rw [← ht, List.getElem?_take_of_lt (by omega)]
      simp [World.cell?, hh]
    have far : ∀ (p : Addr) (v : Value), p.block ≠ w.heap.size + 1 → w1.cell? p = some v → (w1.setCell ⟨w.heap.size + 1, 0, none⟩ (.slice (some ⟨g, 0, none⟩) 1 cap)).cell? p = some v := fun p v hp h => by
      rw [World.cell?_setCell_other _ _ _ _ (by intro e; rw [← e] at hp; exact hp rfl)]
      exact h
    have old : ∀ (p : Addr) (v : Value), p.block < w.heap.size + 3 → (((w.alloc (.cells #[.int .i64 x, .int .i64 y, .int .i64 z] 24)).alloc (.cells #[.slice none 0 0] 28)).alloc (.cells #[.int .i64 x, .int .i64 y, .int .i64 z, .iface 25 (.pointer (some ⟨w.heap.size + 1, 0, none⟩))] 33)).cell? p = some v → w1.cell? p = some v := fun p v hp h => by
      rw [hb.cell (p := p) (by simp; omega)]
      exact h
    refine ⟨far _ _ (by show w.heap.size ≠ _; omega) (old _ _ (by show w.heap.size < _; omega) (by go_simp)), far _ _ (by show w.heap.size ≠ _; omega) (old _ _ (by show w.heap.size < _; omega) (by go_simp)), far _ _ (by show w.heap.size ≠ _; omega) (old _ _ (by show w.heap.size < _; omega) (by go_simp)),
      far _ _ (by show w.heap.size + 1 + 1 ≠ _; omega) (old _ _ (by show w.heap.size + 1 + 1 < _; omega) (by go_simp)), far _ _ (by show w.heap.size + 1 + 1 ≠ _; omega) (old _ _ (by show w.heap.size + 1 + 1 < _; omega) (by go_simp)), far _ _ (by show w.heap.size + 1 + 1 ≠ _; omega) (old _ _ (by show w.heap.size + 1 + 1 < _; omega) (by go_simp)), far _ _ (by show w.heap.size + 1 + 1 ≠ _; omega) (old _ _ (by show w.heap.size + 1 + 1 < _; omega) (by go_simp)),
      World.cell?_setCell_same _ _ _ (u := .slice none 0 0) (old _ _ (by show w.heap.size + 1 < _; omega) (by go_simp)),
      far _ _ (by show g ≠ _; omega) (hcur 0 (by omega)), far _ _ (by show g ≠ _; omega) (hcur 1 (by omega)), far _ _ (by show g ≠ _; omega) (hcur 2 (by omega)), far _ _ (by show g ≠ _; omega) (hcur 3 (by omega)), far _ _ (by show g ≠ _; omega) (hcur 4 (by omega)), far _ _ (by show g ≠ _; omega) (hcur 5 (by omega)), far _ _ (by show g ≠ _; omega) (hcur 6 (by omega))⟩

end Go.Proofs.Ybulkcafe
