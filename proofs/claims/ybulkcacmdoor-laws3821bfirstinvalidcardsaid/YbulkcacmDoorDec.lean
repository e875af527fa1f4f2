/-
  The contract of gnward.zzs3821bdec: it writes n in decimal, as strconv.Itoa does.
-/
import Derived.Test.YbulkcacmDoorShelf
import Derived.WalkKit
import Derived.WalkSpells
import Derived.WalkLawsBesides
import Derived.Laws.IdiomStrings
namespace Go.Proofs.YbulkcacmDoor
open Go.RowKit

/-- The numeral of m. -/
def num (m : Nat) : ByteArray := ⟨(Lib.itoa (m : Int)).toArray⟩

theorem itoa_nat (m : Nat) : Lib.itoa (m : Int) = Lib.decDigits m := by
  unfold Lib.itoa
  rw [if_neg (by omega)]
  rfl

theorem dec1 (m : Nat) (h : m < 10) : Lib.decDigits m = [UInt8.ofNat (48 + m)] := by
  unfold Lib.decDigits
  rw [dif_pos h]
theorem dec2 (m : Nat) (h : 10 ≤ m) (h1 : m < 100) : Lib.decDigits m = [UInt8.ofNat (48 + m / 10), UInt8.ofNat (48 + m % 10)] := by
  unfold Lib.decDigits
  rw [dif_neg (by omega), dec1 (m / 10) (by omega)]
  rfl
theorem dec3 (m : Nat) (h : 100 ≤ m) (h1 : m < 1000) : Lib.decDigits m = [UInt8.ofNat (48 + m / 10 / 10), UInt8.ofNat (48 + m / 10 % 10), UInt8.ofNat (48 + m % 10)] := by
  unfold Lib.decDigits
  rw [dif_neg (by omega), dec2 (m / 10) (by omega) (by omega)]
  rfl

theorem byte_nat (k : Nat) (h : k < 256) : ((UInt8.ofNat k).toNat : Int) = k := by
  simp [Nat.mod_eq_of_lt h]

theorem conv3 (m : Nat) (h : 100 ≤ m) (h1 : m ≤ 255) (w : World) :
    (convert 23 9 (.slice (some ⟨w.heap.size, 0, none⟩) 3 3)).run Ybad.prog (w.alloc (.cells #[.int .u8 (48 + (m : Int) / 10 / 10 % 10), .int .u8 (48 + (m : Int) / 10 % 10), .int .u8 (48 + (m : Int) % 10)] 43)) = .ok (.string (num m)) (w.alloc (.cells #[.int .u8 (48 + (m : Int) / 10 / 10 % 10), .int .u8 (48 + (m : Int) / 10 % 10), .int .u8 (48 + (m : Int) % 10)] 43)) := by
  have hl : Lib.itoa (m : Int) = [UInt8.ofNat (48 + m / 10 / 10), UInt8.ofNat (48 + m / 10 % 10), UInt8.ofNat (48 + m % 10)] := by rw [itoa_nat, dec3 m h (by omega)]
  unfold num
  rw [hl]
  refine run_convert_bytes_back _ 23 9 5 ⟨w.heap.size, 0, none⟩ 3 [UInt8.ofNat (48 + m / 10 / 10), UInt8.ofNat (48 + m / 10 % 10), UInt8.ofNat (48 + m % 10)] Ybad.underlying23 Ybad.underlying5 Ybad.underlying9 ?_
  intro j hj
  match j, hj with
  | 0, _ => simp only [Addr.add_lit, List.getElem_cons_zero]; rw [byte_nat _ (by omega)]; simp; omega
  | 1, _ => simp only [Addr.add_lit, List.getElem_cons_succ, List.getElem_cons_zero]; rw [byte_nat _ (by omega)]; simp
  | 2, _ => simp only [Addr.add_lit, List.getElem_cons_succ, List.getElem_cons_zero]; rw [byte_nat _ (by omega)]; simp
  | j + 3, hj => simp at hj; omega

theorem conv2 (m : Nat) (h : 10 ≤ m) (h1 : m < 100) (w : World) (x : Value) :
    (convert 23 9 (.slice (some ⟨w.heap.size, 1, none⟩) 2 2)).run Ybad.prog (w.alloc (.cells #[x, .int .u8 (48 + (m : Int) / 10 % 10), .int .u8 (48 + (m : Int) % 10)] 43)) = .ok (.string (num m)) (w.alloc (.cells #[x, .int .u8 (48 + (m : Int) / 10 % 10), .int .u8 (48 + (m : Int) % 10)] 43)) := by
  have hl : Lib.itoa (m : Int) = [UInt8.ofNat (48 + m / 10), UInt8.ofNat (48 + m % 10)] := by rw [itoa_nat, dec2 m h (by omega)]
  unfold num
  rw [hl]
  refine run_convert_bytes_back _ 23 9 5 ⟨w.heap.size, 1, none⟩ 2 [UInt8.ofNat (48 + m / 10), UInt8.ofNat (48 + m % 10)] Ybad.underlying23 Ybad.underlying5 Ybad.underlying9 ?_
  intro j hj
  match j, hj with
  | 0, _ => simp only [Addr.add_lit, List.getElem_cons_zero]; rw [byte_nat _ (by omega)]; simp; omega
  | 1, _ => simp only [Addr.add_lit, List.getElem_cons_succ, List.getElem_cons_zero]; rw [byte_nat _ (by omega)]; simp
  | j + 2, hj => simp at hj; omega

theorem conv1 (m : Nat) (h1 : m < 10) (w : World) (x y : Value) :
    (convert 23 9 (.slice (some ⟨w.heap.size, 2, none⟩) 1 1)).run Ybad.prog (w.alloc (.cells #[x, y, .int .u8 (48 + (m : Int) % 10)] 43)) = .ok (.string (num m)) (w.alloc (.cells #[x, y, .int .u8 (48 + (m : Int) % 10)] 43)) := by
  have hl : Lib.itoa (m : Int) = [UInt8.ofNat (48 + m)] := by rw [itoa_nat, dec1 m h1]
  unfold num
  rw [hl]
  refine run_convert_bytes_back _ 23 9 5 ⟨w.heap.size, 2, none⟩ 1 [UInt8.ofNat (48 + m)] Ybad.underlying23 Ybad.underlying5 Ybad.underlying9 ?_
  intro j hj
  match j, hj with
  | 0, _ => simp only [Addr.add_lit, List.getElem_cons_zero]; rw [byte_nat _ (by omega)]; simp; omega
  | j + 1, hj => simp at hj

theorem num_zero : num 0 = ⟨#[48]⟩ := by
  unfold num
  rw [itoa_nat, dec1 0 (by omega)]
  rfl

set_option maxHeartbeats 400000 in
/-- The world behind the call is the one before it, or that with one new block. -/
theorem dec_any (m : Nat) (w : World) (h1 : m ≤ 255) :
    Calls Ybad.prog 6 #[.int .u8 (m : Int)] w fun e w' => e = .returned (.string (num m)) ∧ (w' = w ∨ ∃ C, w' = w.alloc (.cells C 43)) := by
  by_cases h0 : m = 0
  · subst h0
    have hn := num_zero
    have HN : Hid (num 0 = ⟨#[48]⟩) := hn
    clear hn
    go_enter Ybad.func6, Ybad.ntmps6
    go_wp2
    go_ret
    exact ⟨by rw [HN.out]; rfl, Or.inl rfl⟩
  · have hq : ((m : Int) == 0) = false := by simp; omega
    by_cases ha : m < 10
    · have hcv := conv1 m ha
      go_enter Ybad.func6, Ybad.ntmps6
      go_wp2
      refine wp_loop_rounds 2 ?_
      rw [rounds_succ]
      go_wp2
      rw [rounds_succ]
      go_wp2
      go_ret
      exact ⟨rfl, Or.inr ⟨_, rfl⟩⟩
    · by_cases hb : m < 100
      · have hcv := conv2 m (by omega) hb
        go_enter Ybad.func6, Ybad.ntmps6
        go_wp2
        refine wp_loop_rounds 3 ?_
        rw [rounds_succ]
        go_wp2
        rw [rounds_succ]
        go_wp2
        rw [rounds_succ]
        go_wp2
        go_ret
        exact ⟨rfl, Or.inr ⟨_, rfl⟩⟩
      · have hcv := conv3 m (by omega) h1
        go_enter Ybad.func6, Ybad.ntmps6
        go_wp2
        refine wp_loop_rounds 4 ?_
        rw [rounds_succ]
        go_wp2
        rw [rounds_succ]
        go_wp2
        rw [rounds_succ]
        go_wp2
        rw [rounds_succ]
        go_wp2
        go_ret
        exact ⟨rfl, Or.inr ⟨_, rfl⟩⟩

end Go.Proofs.YbulkcacmDoor
