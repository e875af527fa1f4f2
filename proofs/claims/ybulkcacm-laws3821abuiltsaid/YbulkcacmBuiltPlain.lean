/-
  THE PLAIN LAW OF LawS3821ABuilt: no Go in sight. 'F ls': the octets that the law builds out of the lengths ls: of each a length octet and that many letters.
-/
import Derived.Test.YbulkcacmPlain
namespace Go.Proofs.Ybulkcacm

def kOf (l : Int) : Nat := 1 + (l % 63).toNat
def letters (t : Nat) : List Int := (List.range t).map fun (j : Nat) => 97 + (j : Int) % 26
def block (l : Int) : List Int := (kOf l : Int) :: letters (kOf l)
def F (ls : List Int) : List Int := ls.flatMap block
def zOf (L : List Int) (i : Nat) : Int := L.getD i 0

theorem kOf_pos (l : Int) : 1 ≤ kOf l := by unfold kOf; omega
theorem kOf_le (l : Int) : kOf l ≤ 63 := by unfold kOf; omega
theorem letters_length (t : Nat) : (letters t).length = t := by simp [letters]
theorem letters_succ (t : Nat) : letters (t + 1) = letters t ++ [97 + (t : Int) % 26] := by simp [letters, List.range_succ]
theorem block_length (l : Int) : (block l).length = 1 + kOf l := by simp [block, letters_length]; omega
theorem F_nil : F [] = [] := rfl
theorem F_cons (l : Int) (ls : List Int) : F (l :: ls) = block l ++ F ls := by simp [F]
theorem F_snoc (ls : List Int) (l : Int) : F (ls ++ [l]) = F ls ++ block l := by simp [F]
theorem F_length_le : ∀ ls : List Int, (F ls).length ≤ 64 * ls.length
  | [] => by simp [F]
  | l :: ls => by
    rw [F_cons, List.length_append, block_length, List.length_cons]
    have := F_length_le ls
    have := kOf_le l
    omega
theorem F_pos (ls : List Int) (h : ls ≠ []) : 2 ≤ (F ls).length := by
  cases ls with
  | nil => exact absurd rfl h
  | cons l ls => rw [F_cons, List.length_append, block_length]; have := kOf_pos l; omega

/-- Each octet fits a byte. -/
theorem letters_bd (t : Nat) : ∀ x ∈ letters t, 0 ≤ x ∧ x ≤ 255 := by
  intro x hx
  simp only [letters, List.mem_map] at hx
  obtain ⟨j, _, rfl⟩ := hx
  omega
theorem F_bd (ls : List Int) : ∀ x ∈ F ls, 0 ≤ x ∧ x ≤ 255 := by
  intro x hx
  simp only [F, List.mem_flatMap, block, List.mem_cons] at hx
  obtain ⟨l, _, h | h⟩ := hx
  · have := kOf_le l; omega
  · exact letters_bd _ x h
theorem zOf_bd (L : List Int) (h : ∀ x ∈ L, 0 ≤ x ∧ x ≤ 255) (i : Nat) (_hi : i < L.length) : 0 ≤ zOf L i ∧ zOf L i ≤ 255 := by
  unfold zOf
  rw [List.getD_eq_getElem?_getD, List.getElem?_eq_getElem _hi]
  exact h _ (List.getElem_mem _)

/-- Over whole labels the walk goes from label to label. -/
theorem steps (T : Nat) (L X : List Int) : ∀ (ls A : List Int), L = A ++ (F ls ++ X) → A.length + (F ls).length ≤ T →
    ok (zOf L) T (T - A.length) A.length = ok (zOf L) T (T - (A.length + (F ls).length)) (A.length + (F ls).length)
  | [], A, _, _ => by simp [F]
  | l :: ls, A, hL, hT => by
    have hk := kOf_pos l
    have hlen : (F (l :: ls)).length = 1 + kOf l + (F ls).length := by rw [F_cons, List.length_append, block_length]
    have hz : zOf L A.length = kOf l := by
      rw [hL, F_cons, block]
      simp [zOf]
    have hs := ok_step (zOf L) T A.length (by omega) (by rw [hz]; omega)
    rw [hz] at hs
    rw [hs]
    have ih := steps T L X ls (A ++ block l) (by rw [hL, F_cons]; simp) (by rw [List.length_append, block_length]; omega)
    rw [List.length_append, block_length] at ih
    rw [show A.length + 1 + (kOf l : Int).toNat = A.length + (1 + kOf l) from by omega, ih, hlen]
    rw [show A.length + (1 + kOf l) + (F ls).length = A.length + (1 + kOf l + (F ls).length) from by omega]

theorem full (ls : List Int) : ok (zOf (F ls)) (F ls).length ((F ls).length - 0) 0 = true := by
  have h := steps (F ls).length (F ls) [] ls [] (by simp) (by simp)
  simp only [List.length_nil, Nat.zero_add] at h
  rw [h]
  exact ok_end _ _

theorem cut (ls : List Int) (hne : ls ≠ []) : ok (zOf (F ls)) ((F ls).length - 1) ((F ls).length - 1 - 0) 0 = false := by
  obtain ⟨l1, l, rfl⟩ : ∃ l1 l, ls = l1 ++ [l] := ⟨ls.dropLast, ls.getLast hne, (List.dropLast_concat_getLast hne).symm⟩
  have hlen : (F (l1 ++ [l])).length = (F l1).length + (1 + kOf l) := by rw [F_snoc, List.length_append, block_length]
  have hk := kOf_pos l
  have h := steps ((F (l1 ++ [l])).length - 1) (F (l1 ++ [l])) (block l) l1 [] (by rw [F_snoc]; simp) (by simp; omega)
  simp only [List.length_nil, Nat.zero_add] at h
  rw [h]
  have hz : zOf (F (l1 ++ [l])) (F l1).length = kOf l := by
    rw [F_snoc, block]
    simp [zOf]
  exact ok_over _ _ _ (by omega) (by rw [hz]; omega)

theorem more (ls : List Int) (x : Int) (hx : 0 ≤ x) : ok (zOf (F ls ++ [x])) ((F ls).length + 1) ((F ls).length + 1 - 0) 0 = false := by
  have h := steps ((F ls).length + 1) (F ls ++ [x]) [x] ls [] (by simp) (by simp)
  simp only [List.length_nil, Nat.zero_add] at h
  rw [h]
  have hz : zOf (F ls ++ [x]) (F ls).length = x := by simp [zOf]
  by_cases h0 : x = 0
  · exact ok_zero _ _ _ (by omega) (by rw [hz]; exact h0)
  · exact ok_over _ _ _ (by omega) (by rw [hz]; omega)

end Go.Proofs.Ybulkcacm
