/-
  THE PLAIN LAW: no Go in sight. 'ok z len f p': from place p the length octets lead exactly to the end 'len' ('f': fuel; 'len - p' suffices).
-/
namespace Go.Proofs.Ybulkcacm

def ok (z : Nat → Int) (len : Nat) : Nat → Nat → Bool
  | 0, p => p == len
  | f + 1, p => if p < len then (if z p = 0 then false else ok z len f (p + 1 + (z p).toNat)) else p == len

theorem ok_out (z : Nat → Int) (len f p : Nat) (h : len ≤ p) : ok z len f p = (p == len) := by
  cases f with
  | zero => rfl
  | succ f => simp only [ok]; rw [if_neg (by omega)]

/-- Fuel beyond 'len - p' turns nothing. -/
theorem ok_fuel (z : Nat → Int) (len : Nat) : ∀ (f g p : Nat), len - p ≤ f → len - p ≤ g → ok z len f p = ok z len g p
  | 0, g, p, hf, _ => by rw [ok_out z len 0 p (by omega), ok_out z len g p (by omega)]
  | f + 1, 0, p, _, hg => by rw [ok_out z len _ p (by omega), ok_out z len 0 p (by omega)]
  | f + 1, g + 1, p, hf, hg => by
    simp only [ok]
    by_cases hp : p < len
    · rw [if_pos hp, if_pos hp]
      by_cases h0 : z p = 0
      · rw [if_pos h0, if_pos h0]
      · rw [if_neg h0, if_neg h0]
        exact ok_fuel z len f g _ (by omega) (by omega)
    · rw [if_neg hp, if_neg hp]

theorem ok_zero (z : Nat → Int) (len p : Nat) (hp : p < len) (h0 : z p = 0) : ok z len (len - p) p = false := by
  obtain ⟨f, hf⟩ : ∃ f, len - p = f + 1 := ⟨len - p - 1, by omega⟩
  rw [hf]
  simp only [ok]
  rw [if_pos hp, if_pos h0]

theorem ok_step (z : Nat → Int) (len p : Nat) (hp : p < len) (h0 : z p ≠ 0) : ok z len (len - p) p = ok z len (len - (p + 1 + (z p).toNat)) (p + 1 + (z p).toNat) := by
  obtain ⟨f, hf⟩ : ∃ f, len - p = f + 1 := ⟨len - p - 1, by omega⟩
  rw [hf]
  simp only [ok]
  rw [if_pos hp, if_neg h0]
  exact ok_fuel z len _ _ _ (by omega) (by omega)

theorem ok_over (z : Nat → Int) (len p : Nat) (hp : p < len) (h : (len : Int) - p ≤ z p) : ok z len (len - p) p = false := by
  rw [ok_step z len p hp (by omega), ok_out z len _ _ (by omega)]
  simp; omega

theorem ok_end (z : Nat → Int) (len : Nat) : ok z len (len - len) len = true := by
  rw [ok_out z len _ _ (Nat.le_refl _)]; simp

/-- What validAPN answers. -/
def apn (z : Nat → Int) (len : Nat) : Bool := if len = 0 then false else ok z len (len - 0) 0

end Go.Proofs.Ybulkcacm
