/-
  The walks of the seat b3821a: the contracts of gnward.validAPN and gnward.zzs3821amodel: both answer 'apn z len', z: the octets.
-/
import Derived.Test.YbulkcacmRows
import Derived.Test.YbulkcacmPlain
import Derived.WalkKit
import Derived.WalkSpells
namespace Go.Proofs.Ybulkcacm
open Go.RowKit

theorem valid_empty (a : Option Addr) (cap : Nat) (w : World) :
    Calls Yba.prog 5 #[.slice a 0 cap] w fun e w' => e = .returned (.bool false) ∧ w = w' := by
  go_enter Yba.func5, Yba.ntmps5
  go_wp2
  go_ret
  exact ⟨rfl, rfl⟩

theorem model_empty (a : Option Addr) (cap : Nat) (w : World) :
    Calls Yba.prog 6 #[.slice a 0 cap] w fun e w' => e = .returned (.bool false) ∧ w = w' := by
  go_enter Yba.func6, Yba.ntmps6
  go_wp2
  go_ret
  exact ⟨rfl, rfl⟩

theorem ret_bool {a b : Bool} (h : a = b) : Ending.returned (.bool a) = .returned (.bool b) := by rw [h]

def lenOf : Value → Nat | .slice _ n _ => n | _ => 0

/-- The address behind 'value[1+n:]': where the capacity is used up it stays. -/
theorem addr_step (b off p len c : Nat) (n : Int) (hc1 : len - p ≤ c) (hn : 0 ≤ n) (h : p + 1 + n.toNat < len) :
    (if c = (1 + n).toNat then some (⟨b, off + p, none⟩ : Addr) else some ⟨b, off + p + (1 + n).toNat, none⟩) = some ⟨b, off + (p + 1 + n.toNat), none⟩ := by
  rw [if_neg (by omega)]
  congr 2
  omega

set_option maxHeartbeats 400000 in
theorem valid_any (b off len cap : Nat) (z : Nat → Int) (w : World) (h0 : ((len : Int) == 0) = false) (hl : len ≤ 100000) (hcap : len ≤ cap)
    (hc : ∀ i, i < len → w.cell? ⟨b, off + i, none⟩ = some (.int .u8 (z i))) (hz : ∀ i, i < len → 0 ≤ z i ∧ z i ≤ 255) :
    Calls Yba.prog 5 #[.slice (some ⟨b, off, none⟩) len cap] w fun e w' => e = .returned (.bool (ok z len (len - 0) 0)) ∧ w = w' := by
  generalize hr : ok z len (len - 0) 0 = r
  have HR : Hid (ok z len (len - 0) 0 = r) := hr
  clear hr
  go_enter Yba.func5, Yba.ntmps5
  go_wp2
  go_loop [0] (fun v => ∃ (p : Nat) (a : Option Addr) (c : Nat), p ≤ len ∧ (p < len → a = some ⟨b, off + p, none⟩) ∧ len - p ≤ c ∧ c ≤ cap ∧ v = .slice a (len - p) c ∧ Hid (ok z len (len - p) p = r)) (fun v => lenOf v)
  case atStart => exact ⟨0, _, cap, by omega, fun _ => rfl, by omega, by omega, rfl, HR⟩
  case round =>
    obtain ⟨p, a, c, hp, ha, hc1, hc2, rfl, HP⟩ := hrel
    by_cases hlt : p < len
    · obtain rfl := ha hlt
      have hcell := hc p hlt
      have hb := hz p hlt
      by_cases hq0 : z p = 0
      · have hq : (z p == 0) = true := by simp [hq0]
        have HF : Hid (r = false) := HP.out.symm.trans (ok_zero z len p hlt hq0)
        clear hq0 HP HR
        go_wp2
        go_ret
        exact ⟨ret_bool HF.out.symm, rfl⟩
      · have hq : (z p == 0) = false := by simp [hq0]
        by_cases ho : ((len - p : Nat) : Int) ≤ z p
        · have HF : Hid (r = false) := HP.out.symm.trans (ok_over z len p hlt (by omega))
          clear hq0 HP HR
          go_wp2
          go_ret
          exact ⟨ret_bool HF.out.symm, rfl⟩
        · have HS : Hid (ok z len (len - (p + 1 + (z p).toNat)) (p + 1 + (z p).toNat) = r) := (ok_step z len p hlt hq0).symm.trans HP.out
          clear hq0 HP HR
          have ho' : z p < ((len - p : Nat) : Int) := by omega
          go_wp2
          exact ⟨⟨p + 1 + (z p).toNat, _, c - (1 + z p).toNat, by omega, addr_step b off p len c (z p) hc1 hb.1, by omega, by omega, by congr 1; omega, HS⟩, by simp [lenOf]; omega⟩
    · have e : len - p = 0 := by omega
      have e' : p = len := by omega
      have HF : Hid (r = true) := by
        rw [e'] at HP
        exact HP.out.symm.trans (ok_end z len)
      clear e' HP HR
      go_wp2
      go_ret
      exact ⟨ret_bool HF.out.symm, rfl⟩

set_option maxHeartbeats 400000 in
theorem model_any (b off len cap : Nat) (z : Nat → Int) (w : World) (h0 : ((len : Int) == 0) = false) (hl : len ≤ 100000)
    (hc : ∀ i, i < len → w.cell? ⟨b, off + i, none⟩ = some (.int .u8 (z i))) (hz : ∀ i, i < len → 0 ≤ z i ∧ z i ≤ 255) :
    Calls Yba.prog 6 #[.slice (some ⟨b, off, none⟩) len cap] w fun e w' => e = .returned (.bool (ok z len (len - 0) 0)) ∧ w = w' := by
  generalize hr : ok z len (len - 0) 0 = r
  have HR : Hid (ok z len (len - 0) 0 = r) := hr
  clear hr
  go_enter Yba.func6, Yba.ntmps6
  go_wp2
  go_loop [3] (fun v => ∃ p : Nat, p ≤ len + 256 ∧ v = .int .i64 p ∧ Hid (ok z len (len - p) p = r)) (fun v => len - (intOf v).toNat)
  case atStart => exact ⟨0, by omega, rfl, HR⟩
  case round =>
    obtain ⟨p, hp, rfl, HP⟩ := hrel
    by_cases hlt : p < len
    · have hcell := hc p hlt
      have hb := hz p hlt
      by_cases hq0 : z p = 0
      · have hq : (z p == 0) = true := by simp [hq0]
        have HF : Hid (r = false) := HP.out.symm.trans (ok_zero z len p hlt hq0)
        clear hq0 HP HR
        go_wp2
        go_ret
        exact ⟨ret_bool HF.out.symm, rfl⟩
      · have hq : (z p == 0) = false := by simp [hq0]
        have HS : Hid (ok z len (len - (p + 1 + (z p).toNat)) (p + 1 + (z p).toNat) = r) := (ok_step z len p hlt hq0).symm.trans HP.out
        clear hq0 HP HR
        go_wp2
        exact ⟨⟨p + 1 + (z p).toNat, by omega, by congr 1; omega, HS⟩, by simp [intOf]; omega⟩
    · have HF : Hid (r = (p == len)) := HP.out.symm.trans (ok_out z len _ p (by omega))
      clear HP HR
      go_wp2
      go_ret
      exact ⟨ret_bool (by rw [HF.out]; rw [Bool.eq_iff_iff]; simp; omega), rfl⟩

end Go.Proofs.Ybulkcacm
