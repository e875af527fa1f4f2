/-
  The walk of gnward.LawS3821ABuilt: two loops that append to a slice of the call's own; then validAPN at what was built, at it less one octet, at it and one octet more.
-/
import Derived.Test.YbulkcacmOwns
namespace Go.Proofs.Ybulkcacm
open Go.RowKit

theorem valid_owned {B : Nat} {w : World} {v : Value} {L : List Int} (h : owns B w v L) (hL : 0 < L.length) (hl : L.length ≤ 100000) (hbd : ∀ x ∈ L, 0 ≤ x ∧ x ≤ 255) :
    Calls Yba.prog 5 #[v] w fun e w' => e = .returned (.bool (ok (zOf L) L.length (L.length - 0) 0)) ∧ w = w' := by
  obtain ⟨g, cap, rfl, hc, _, hcell⟩ := h.cells hL
  exact valid_any g 0 L.length cap (zOf L) w (beq_eq_false_iff_ne.2 (by omega)) hl hc hcell (zOf_bd L hbd)

theorem owns_letters {B : Nat} {w : World} {v : Value} {A : List Int} {K : Int} {t : Nat} (h : owns B w v (A ++ (K :: letters t) ++ [97 + (t : Int) % 26])) : owns B w v (A ++ (K :: letters (t + 1))) := by
  rw [letters_succ]
  simpa using h

set_option maxRecDepth 100000 in
set_option maxHeartbeats 1000000 in
theorem built_any (b off len cap : Nat) (zs : List Int) (x : Int) (w : World) (h0 : 0 < len) (hl : len ≤ 300) (hz : len ≤ zs.length) (hb : b < w.heap.size)
    (hc : ∀ j, j < len → w.cell? ⟨b, off + j, none⟩ = some (.int .u8 (zs.getD j 0))) (hbd : ∀ j, j < len → 0 ≤ zs.getD j 0 ∧ zs.getD j 0 ≤ 255) (hx : 0 ≤ x ∧ x ≤ 255) :
    Calls Yba.prog 4 #[.slice (some ⟨b, off, none⟩) len cap, .int .u8 x] w fun e w' => e = .returned (.bool true) ∧ Below w.heap.size w w' := by
  have hl' : decide ((300 : Int) < (len : Int)) = false := by simp; omega
  have hB0 : w.heap.size ≤ w.heap.size := Nat.le_refl _
  generalize hB : w.heap.size = B at *
  have HB : Hid (w.heap.size = B) := hB
  have HC : Hid (∀ j, j < len → w.cell? ⟨b, off + j, none⟩ = some (.int .u8 (zs.getD j 0))) := hc
  have HD : Hid (∀ j, j < len → 0 ≤ zs.getD j 0 ∧ zs.getD j 0 ≤ 255) := hbd
  clear hB hc hbd
  go_enter Yba.func4, Yba.ntmps4
  go_wp2_with (at_make; refine wpList_mk _ rfl _ _ rfl B _ 16 rfl rfl (by decide) (by decide) (Nat.le_of_eq HB.out.symm) ?_; intro v1 w1 hown1 hb1 hs1; have HO : Hid (owns B w1 v1 []) := hown1; have HW : Hid (Below B w w1) := hb1; clear hown1 hb1)
  go_loopw [5, 17] (fun v i wr => ∃ k : Nat, k ≤ len ∧ i = .int .i64 k ∧ Hid (owns B wr v (F (zs.take k))) ∧ Hid (Below B w wr) ∧ B < wr.heap.size) (fun _ i _ => len - (intOf i).toNat)
  case atStart => exact ⟨0, by omega, rfl, HO, HW, hs1⟩
  case round =>
    obtain ⟨k, hk, rfl, HO, HW, hsz⟩ := hrel
    by_cases hlt : k < len
    · obtain ⟨l, hlz⟩ : ∃ l, zs.getD k 0 = l := ⟨_, rfl⟩
      have hcx : wr.cell? ⟨b, off + k, none⟩ = some (.int .u8 l) := (HW.out.cell (by exact hb)).trans (by rw [← hlz]; exact HC.out k hlt)
      have hbx : 0 ≤ l ∧ l ≤ 255 := by rw [← hlz]; exact HD.out k hlt
      have HL : Hid (zs.getD k 0 = l) := hlz
      clear hlz
      obtain ⟨K, hK, hK1, hK2⟩ : ∃ K : Nat, K = kOf l ∧ 1 ≤ K ∧ K ≤ 63 := ⟨_, rfl, kOf_pos l, kOf_le l⟩
      have hKv : 1 + l % 63 = (K : Int) := by rw [hK]; unfold kOf; omega
      have HK : Hid (K = kOf l) := hK
      clear hK
      have hFl : (F (zs.take k)).length ≤ 19200 := by
        have := F_length_le (zs.take k)
        have := List.length_take_le k zs
        omega
      go_wp2_with (at_builtin; refine wpList_app1 _ rfl _ _ rfl B _ (F (zs.take k)) K rfl (owns.alloc HO.out _) wr.heap.size rfl (by simp) (by omega) (by simp; omega) ?_; intro v2 w2 hown2 hb2; have hs2 : B < w2.heap.size := (by have := hb2.size; simp at this; omega); have HO2 : Hid (owns B w2 v2 (F (zs.take k) ++ [(K : Int)])) := hown2; have HW2 : Hid (Below B w w2) := (HW.out.alloc (by omega) _).trans hb2; clear hown2 hb2 HO HW hcx)
      go_loopw [5, 9] (fun v j wi => ∃ t : Nat, t ≤ K ∧ j = .int .i64 t ∧ Hid (owns B wi v (F (zs.take k) ++ ((K : Int) :: letters t))) ∧ Hid (Below B w wi) ∧ B < wi.heap.size) (fun _ j _ => K - (intOf j).toNat)
      case atStart => exact ⟨0, by omega, rfl, HO2, HW2, hs2⟩
      case round =>
        obtain ⟨t, ht, rfl, HO3, HW3, hs3⟩ := hrel
        by_cases htl : t < K
        · go_wp2_with (at_builtin; refine wpList_app1 _ rfl _ _ rfl B _ (F (zs.take k) ++ ((K : Int) :: letters t)) (97 + (t : Int) % 26) rfl (owns.alloc HO3.out _) wr.heap.size rfl (by simp) (by simp [letters_length]; omega) (by simp; omega) ?_; intro v3 w3 hown3 hb3; have hs4 : B < w3.heap.size := (by have := hb3.size; simp at this; omega); have HO4 : Hid (owns B w3 v3 (F (zs.take k) ++ ((K : Int) :: letters (t + 1)))) := owns_letters hown3; have HW4 : Hid (Below B w w3) := (HW3.out.alloc (by omega) _).trans hb3; clear hown3 hb3 HO3 HW3)
          go_roundw
          case rel => exact ⟨t + 1, by omega, by go_num, HO4, HW4, hs4⟩
          case measure => simp [intOf]; omega
        · obtain rfl : t = K := by omega
          have HO5 : Hid (owns B wr u5 (F (zs.take (k + 1)))) := by
            have h := HO3.out
            have e : F (zs.take (k + 1)) = F (zs.take k) ++ ((t : Int) :: letters t) := by
              rw [take_snoc zs k (by omega), HL.out, F_snoc, block, ← HK.out]
            show owns B wr u5 (F (zs.take (k + 1)))
            rw [e]
            exact h
          clear HO3 HO2 HW2
          go_wp2
          go_roundw
          case rel => exact ⟨k + 1, by omega, by go_num, HO5, HW3, hs3⟩
          case measure => simp [intOf]; omega
    · obtain rfl : k = len := by omega
      have hFl : (F (zs.take k)).length ≤ 19200 := by
        have := F_length_le (zs.take k)
        have := List.length_take_le k zs
        omega
      have hne : zs.take k ≠ [] := by
        intro h
        have := congrArg List.length h
        rw [List.length_take] at this
        simp only [List.length_nil] at this
        omega
      have hF2 := F_pos _ hne
      have hfull := full (zs.take k)
      have hcut := cut (zs.take k) hne
      have hmore := more (zs.take k) x hx.1
      have hbF := F_bd (zs.take k)
      obtain ⟨g, c, rfl, hgc, hgs, hcell⟩ := HO.out.cells (by omega)
      generalize F (zs.take k) = L at *
      obtain ⟨n, hn⟩ : ∃ n, L.length = n := ⟨_, rfl⟩
      have HN : Hid (L.length = n) := hn
      rw [hn] at hfull hcut hcell hgc hF2 hFl ⊢
      have hv1 : Calls Yba.prog 5 #[.slice (some ⟨g, 0, none⟩) n c] wr fun e w' => e = .returned (.bool true) ∧ wr = w' := by
        have h := valid_any g 0 n c (zOf L) wr (beq_eq_false_iff_ne.2 (by omega)) (by omega) hgc hcell (fun i hi => zOf_bd L hbF i (by omega))
        rw [hfull] at h
        exact h
      have hv2 : ∀ c', n - 1 ≤ c' → Calls Yba.prog 5 #[.slice (some ⟨g, 0, none⟩) (n - 1) c'] wr fun e w' => e = .returned (.bool false) ∧ wr = w' := fun c' hc' => by
        have h := valid_any g 0 (n - 1) c' (zOf L) wr (beq_eq_false_iff_ne.2 (by omega)) (by omega) hc' (fun i hi => hcell i (by omega)) (fun i hi => zOf_bd L hbF i (by omega))
        rw [hcut] at h
        exact h
      have H1 : Hid _ := hv1
      have H2 : Hid _ := hv2
      have HCell : Hid _ := hcell
      have HBF : Hid _ := hbF
      have HM : Hid _ := hmore
      clear hv1 hv2 hcell hbF hmore hfull hcut hn hne HO HD HC
      have HCX : Hid (∀ w', Below wr.heap.size wr w' → ∀ i, i < L.length → w'.cell? ⟨g, i, none⟩ = some (.int .u8 (zOf L i))) := fun w' hb' i hi => by
        have hgi := HCell.out i (Nat.lt_of_lt_of_eq hi HN.out)
        rw [Nat.zero_add] at hgi
        exact (hb'.cell (p := ⟨g, i, none⟩) hgs).trans hgi
      have hn0 : ((n : Int) == 0) = false := beq_eq_false_iff_ne.2 (by omega)
      have hk0 : decide ((0 : Int) < (k : Int)) = true := by simp; omega
      go_wp2_with fail
      refine Calls.mono H1.out ?_
      rintro e w4 ⟨rfl, rfl⟩
      go_wp2_with fail
      refine Calls.mono (H2.out c (by omega)) ?_
      rintro e w4 ⟨rfl, rfl⟩
      clear H1 H2 HCell
      go_wp2_with (first
        | (at_make; refine wpList_mk _ rfl _ _ rfl wr.heap.size _ (n + 1) rfl rfl (by omega) (by omega) (Nat.le_refl _) ?_; intro v5 w5 hown5 hb5 hs5; have HO5 : Hid (owns wr.heap.size w5 v5 []) := hown5; have HW5 : Hid (Below wr.heap.size wr w5) := hb5; clear hown5 hb5)
        | (at_builtin; have hcx := HCX.out w5 HW5.out; refine wpList_appN _ rfl _ _ rfl wr.heap.size _ [] L rfl HO5.out g n c rfl HN.out hcx (by simp only [List.length_nil]; rw [HN.out]; omega) (by omega) ?_; intro v6 w6 hown6 hb6; have hs6 : wr.heap.size < w6.heap.size := (by have := hb6.size; omega); have HO6 : Hid (owns wr.heap.size w6 v6 L) := hown6; have HW6 : Hid (Below wr.heap.size wr w6) := HW5.out.trans hb6; clear hown6 hb6 hcx HCX HO5 HW5)
        | (at_builtin; refine wpList_app1 _ rfl _ _ rfl wr.heap.size _ L x rfl (owns.alloc HO6.out _) w6.heap.size rfl (by simp) (by rw [HN.out]; omega) (by simp; omega) ?_; intro v7 w7 hown7 hb7; have HO7 : Hid (owns wr.heap.size w7 v7 (L ++ [x])) := hown7; have HW7 : Hid (Below wr.heap.size wr w7) := (HW6.out.alloc (by omega) _).trans hb7; clear hown7 hb7 HO6 HW6))
      have hv3 := valid_owned HO7.out (by simp) (by simp; rw [HN.out]; omega) (fun y hy => by
        rcases List.mem_append.1 hy with h | h
        · exact HBF.out y h
        · have e : y = x := by simpa using h
          rw [e]; exact hx)
      rw [List.length_append, List.length_singleton, HM.out] at hv3
      refine Calls.mono hv3 ?_
      rintro e w8 ⟨rfl, rfl⟩
      clear hv3
      go_wp2_with fail
      go_ret
      exact ⟨rfl, HW.out.trans (HW7.out.mono (by omega))⟩

theorem make16 (w : World) : (Instr.makeSlice 22 (.int .i64 0) (.int .i64 16)).run Yba.prog w = .ok (.slice (some ⟨w.heap.size, 0, none⟩) 0 16) (w.alloc (.cells (Array.replicate 16 (.int .u8 0)) 5)) := by kernel_rfl

set_option maxHeartbeats 400000 in
theorem built_empty (a : Option Addr) (cap : Nat) (x : Int) (w : World) :
    Calls Yba.prog 4 #[.slice a 0 cap, .int .u8 x] w fun e w' => e = .returned (.bool true) ∧ Below w.heap.size w w' := by
  have hmk := make16
  go_enter Yba.func4, Yba.ntmps4
  go_wp2
  refine wp_loop_rounds 1 ?_
  rw [rounds_succ]
  go_wp2_with (go_at_call 5; refine (valid_empty _ _ _).mono ?_; rintro e w' ⟨rfl, rfl⟩)
  go_ret
  exact ⟨rfl, (Below.refl _ _).alloc (Nat.le_refl _) _⟩

set_option maxHeartbeats 400000 in
theorem built_big (a : Option Addr) (len cap : Nat) (x : Int) (w : World) (h : 300 < len) (hm : len ≤ maxLen) :
    Calls Yba.prog 4 #[.slice a len cap, .int .u8 x] w fun e w' => e = .returned (.bool true) ∧ Below w.heap.size w w' := by
  unfold maxLen at hm
  go_enter Yba.func4, Yba.ntmps4
  go_wp2
  go_ret
  exact ⟨rfl, Below.refl _ _⟩

end Go.Proofs.Ybulkcacm
