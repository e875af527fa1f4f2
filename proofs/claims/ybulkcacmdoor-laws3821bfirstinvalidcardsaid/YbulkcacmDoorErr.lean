/-
  The contracts of gnward.ieError and (*ieWalker).check.
-/
import Derived.Test.YbulkcacmDoorDec
import Derived.WalkSmall
namespace Go.Proofs.YbulkcacmDoor
open Go.RowKit

/-- What the walks want of the package-level variables: the table that strconv.Itoa reads; the two sentinels. -/
structure Env (w : World) (pO pV : Value) : Prop where
  tab : Lib.TabIs Ybad.prog w pow10Name .u64 Lib.pow10Tab
  o : w.cell? ⟨0, 0, none⟩ = some (.iface 62 pO)
  v : w.cell? ⟨1, 0, none⟩ = some (.iface 62 pV)
  three : 3 ≤ w.heap.size

theorem g2 : Ybad.prog.globalNamed pow10Name = some 2 := by kernel_rfl

theorem Env.below {w w' : World} {pO pV : Value} {B : Nat} (h : Env w pO pV) (hb : Below B w w') (hB : 3 ≤ B) : Env w' pO pV :=
  ⟨var?_below hb g2 (by omega) h.tab, (hb.cell (p := ⟨0, 0, none⟩) (by show 0 < B; omega)).trans h.o, (hb.cell (p := ⟨1, 0, none⟩) (by show 1 < B; omega)).trans h.v, Nat.le_trans h.three hb.size⟩

/-- 'type ' and the numeral. -/
def det (m : Nat) : ByteArray := ⟨#[116, 121, 112, 101, 32]⟩ ++ num m

theorem grown_below (w : World) (k : Nat) (os : Array Obj) : Below w.heap.size w (Sort.grow (w.drewN k) os) := by
  refine ⟨rfl, rfl, rfl, ?_, fun i hi => ?_⟩
  · show w.heap.size ≤ (w.heap ++ os).size
    simp
  · show (w.heap ++ os)[i]? = w.heap[i]?
    rw [Array.getElem?_append_left hi]

theorem itoa_at (m : Nat) (h1 : m ≤ 255) (w : World) (htab : Lib.TabIs Ybad.prog w pow10Name .u64 Lib.pow10Tab) :
    Calls Ybad.prog 7 #[.int .i64 (m : Int)] w fun e w' => e = .returned (.string (num m)) ∧ Below w.heap.size w w' := by
  refine (itoa_any m (by omega) (by omega) w htab).mono ?_
  rintro e w' ⟨rfl, k, os, rfl⟩
  exact ⟨rfl, grown_below w k os⟩

theorem num_size (m : Nat) (h : m ≤ 255) : (num m).size ≤ 3 := by
  show (Lib.itoa (m : Int)).toArray.size ≤ 3
  rw [itoa_nat]
  by_cases h1 : m < 10
  · rw [dec1 m h1]; simp
  · by_cases h2 : m < 100
    · rw [dec2 m (by omega) h2]; simp
    · rw [dec3 m (by omega) (by omega)]; simp

set_option maxHeartbeats 400000 in
theorem err_any (p : Value) (m : Nat) (h1 : m ≤ 255) (w : World) (htab : Lib.TabIs Ybad.prog w pow10Name .u64 Lib.pow10Tab) :
    Calls Ybad.prog 4 #[.iface 62 p, .int .u8 (m : Int)] w fun e w' => ∃ g, e = .returned (.iface 35 (.pointer (some ⟨g, 0, none⟩))) ∧ w.heap.size ≤ g ∧ w'.heap[g]? = some (.cells #[.iface 62 p, .string (det m)] 38) ∧ Below w.heap.size w w' := by
  have HT : Hid (Lib.TabIs Ybad.prog w pow10Name .u64 Lib.pow10Tab) := htab
  clear htab
  go_enter Ybad.func4, Ybad.ntmps4
  go_wp2_with fail
  refine (itoa_at m h1 _ HT.out).mono ?_
  rintro e w1 ⟨rfl, hb⟩
  have HB : Hid (Below w.heap.size w w1) := hb
  clear hb
  have hns := num_size m h1
  go_wp2
  go_ret
  exact ⟨w1.heap.size, rfl, HB.out.size, (MapKept.heap_alloc w1 _).1, HB.out.alloc HB.out.size _⟩

set_option maxHeartbeats 400000 in
/-- A valid step: nothing but the copy of the argument. -/
theorem check_valid (B : Nat) (t : Int) (w : World) :
    Calls Ybad.prog 5 #[.pointer (some ⟨B, 0, none⟩), .agg #[.int .u8 t, .slice none 0 0], .bool true] w fun e w' => e = .returned (.tuple #[]) ∧ w.alloc (.cells #[.int .u8 t, .slice none 0 0] 34) = w' := by
  go_enter Ybad.func5, Ybad.ntmps5
  go_wp2
  go_end0
  exact ⟨rfl, rfl⟩

set_option maxHeartbeats 400000 in
set_option maxRecDepth 100000 in
/-- An invalid step where one is noted already: the same. -/
theorem check_again (B : Nat) (t : Int) (x : Value) (w : World) (hB : B < w.heap.size) (hc : w.cell? ⟨B, 261, none⟩ = some (.iface 35 x)) :
    Calls Ybad.prog 5 #[.pointer (some ⟨B, 0, none⟩), .agg #[.int .u8 t, .slice none 0 0], .bool false] w fun e w' => e = .returned (.tuple #[]) ∧ w.alloc (.cells #[.int .u8 t, .slice none 0 0] 34) = w' := by
  have hne : ¬ B = w.heap.size := by omega
  go_enter Ybad.func5, Ybad.ntmps5
  go_wp2
  go_end0
  exact ⟨rfl, rfl⟩

set_option maxHeartbeats 400000 in
set_option maxRecDepth 100000 in
/-- The first invalid step: the walker's last field is set to a new error. -/
theorem check_first (B : Nat) (m : Nat) (h1 : m ≤ 255) (pO pV : Value) (w : World) (hB : B < w.heap.size) (hE : Env w pO pV) (hc : w.cell? ⟨B, 261, none⟩ = some .nilIface) (hf : w.frozen? ⟨B, 261, none⟩ = false) :
    Calls Ybad.prog 5 #[.pointer (some ⟨B, 0, none⟩), .agg #[.int .u8 (m : Int), .slice none 0 0], .bool false] w fun e w' => e = .returned (.tuple #[]) ∧ ∃ g w1, w.heap.size ≤ g ∧ w1.heap[g]? = some (.cells #[.iface 62 pV, .string (det m)] 38) ∧ Below w.heap.size w w1 ∧ w1.setCell ⟨B, 261, none⟩ (.iface 35 (.pointer (some ⟨g, 0, none⟩))) = w' := by
  have hne : ¬ B = w.heap.size := by omega
  have h3 := hE.three
  have hv : ∀ o, (w.alloc o).cell? ⟨1, 0, none⟩ = some (.iface 62 pV) := fun o => by
    rw [World.cell?_alloc_past _ _ _ (by show 1 < w.heap.size; omega)]
    exact hE.v
  have HE : Hid (Env w pO pV) := hE
  clear hE
  go_enter Ybad.func5, Ybad.ntmps5
  go_wp2_with fail
  refine (err_any pV m h1 _ (HE.out.below ((Below.refl _ _).alloc (Nat.le_refl _) _) h3).tab).mono ?_
  rintro e w1 ⟨g, rfl, hg, hcells, hb⟩
  have hb2 : Below w.heap.size w w1 := ((Below.refl _ _).alloc (Nat.le_refl _) _).trans (hb.mono (by simp))
  have hc1 : w1.cell? ⟨B, 261, none⟩ = some .nilIface := (hb2.cell (p := ⟨B, 261, none⟩) hB).trans hc
  have hf1 : w1.frozen? ⟨B, 261, none⟩ = false := (hb2.frozen (p := ⟨B, 261, none⟩) hB).trans hf
  have HG : Hid (w.heap.size ≤ g) := by
    show w.heap.size ≤ g
    simp at hg
    omega
  have HC : Hid _ := hcells
  have HB : Hid _ := hb2
  clear hg hcells hb hb2 hv hc hf
  go_wp2
  go_end0
  exact ⟨rfl, g, w1, HG.out, HC.out, HB.out, rfl⟩

end Go.Proofs.YbulkcacmDoor
