/-
  The walk of gnward.LawS3821BFirstInvalid.
-/
import Derived.Test.YbulkcacmDoorWk
import Derived.Deep.RegionHeld3
namespace Go.Proofs.YbulkcacmDoor
open Go.RowKit

/-- The first invalid one of the first k steps, or -1. -/
def fb (va : Nat → Bool) : Nat → Int
  | 0 => -1
  | k + 1 => if va k = false ∧ fb va k < 0 then (k : Int) else fb va k

theorem fb_bd (va : Nat → Bool) : ∀ k, -1 ≤ fb va k ∧ fb va k < k
  | 0 => by simp [fb]
  | k + 1 => by
    have := fb_bd va k
    simp only [fb]
    split <;> omega

theorem fb_valid (va : Nat → Bool) (k : Nat) (h : va k = true) : fb va (k + 1) = fb va k := by
  simp [fb, h]
theorem fb_first (va : Nat → Bool) (k : Nat) (h : va k = false) (h0 : fb va k < 0) : fb va (k + 1) = k := by
  simp [fb, h, h0]
theorem fb_again (va : Nat → Bool) (k : Nat) (h0 : 0 ≤ fb va k) : fb va (k + 1) = fb va k := by
  simp only [fb]
  rw [if_neg (by omega)]

/-- What the field 'invalid' holds behind k steps, where it was nil at first. -/
def St (w : World) (pV : Value) (ty : Nat → Nat) (va : Nat → Bool) (B k : Nat) (inv : Value) : Prop :=
  (fb va k < 0 ∧ inv = .nilIface) ∨
  (0 ≤ fb va k ∧ ∃ g, inv = .iface 35 (.pointer (some ⟨g, 0, none⟩)) ∧ B < g ∧ w.heap[g]? = some (.cells #[.iface 62 pV, .string (det (ty (fb va k).toNat))] 38))

theorem St.next {w w' : World} {pV : Value} {ty : Nat → Nat} {va : Nat → Bool} {B k : Nat} {inv : Value} (h : St w pV ty va B k inv) (hf : fb va (k + 1) = fb va k) (hb : Below w.heap.size w w') : St w' pV ty va B (k + 1) inv := by
  unfold St
  rw [hf]
  rcases h with h | ⟨h0, g, hi, hB, hg⟩
  · exact Or.inl h
  · exact Or.inr ⟨h0, g, hi, hB, by rw [hb.block g (Array.getElem?_eq_some_iff.1 hg).1]; exact hg⟩

theorem beq_cast (t l : Nat) : (t == l) = ((t : Int) == (l : Int)) := by
  rw [Bool.eq_iff_iff]
  simp
  omega

theorem i64_eq {x y : Int} (h : x = y) : Value.int .i64 x = .int .i64 y := by rw [h]

theorem dec_held (n : Nat) (ty : Nat → Nat) (g0 b off : Nat) (xV : Addr) (w : World) (hy : ty n ≤ 255)
    (hS : w.cell? ⟨g0, 0, none⟩ = some (.iface 62 (.pointer (some xV))) ∧ w.cell? ⟨g0, 1, none⟩ = some (.string (det (ty n))) ∧ w.cell? ⟨1, 0, none⟩ = some (.iface 62 (.pointer (some xV))) ∧ w.cell? ⟨b, off + n * 2, none⟩ = some (.int .u8 (ty n : Int))) :
    Calls Ybad.prog 6 #[.int .u8 (ty n : Int)] w fun e w' => e = .returned (.string (num (ty n))) ∧ w'.cell? ⟨g0, 0, none⟩ = some (.iface 62 (.pointer (some xV))) ∧ w'.cell? ⟨g0, 1, none⟩ = some (.string (det (ty n))) ∧ w'.cell? ⟨1, 0, none⟩ = some (.iface 62 (.pointer (some xV))) ∧ w'.cell? ⟨b, off + n * 2, none⟩ = some (.int .u8 (ty n : Int)) ∧ Below w.heap.size w w' := by
  refine (dec_any (ty n) w hy).mono ?_
  rintro e w' ⟨rfl, rfl | ⟨C, rfl⟩⟩
  · exact ⟨rfl, hS.1, hS.2.1, hS.2.2.1, hS.2.2.2, Below.refl _ _⟩
  · have hb : Below w.heap.size w (w.alloc (.cells C 43)) := (Below.refl _ _).alloc (Nat.le_refl _) _
    have hlt : ∀ {p : Addr} {v : Value}, w.cell? p = some v → p.block < w.heap.size := fun {p v} h => by
      rcases Nat.lt_or_ge p.block w.heap.size with g | g
      · exact g
      · simp [World.cell?, Array.getElem?_eq_none g] at h
    exact ⟨rfl, (hb.cell (hlt hS.1)).trans hS.1, (hb.cell (hlt hS.2.1)).trans hS.2.1, (hb.cell (hlt hS.2.2.1)).trans hS.2.2.1, (hb.cell (hlt hS.2.2.2)).trans hS.2.2.2, hb⟩

set_option maxRecDepth 100000 in
set_option maxHeartbeats 2000000 in
theorem law_any (a : Option Addr) (b off len cap : Nat) (ty : Nat → Nat) (va : Nat → Bool) (preset : Bool) (pt last : Nat) (gsn : Int) (pO : Value) (xV : Addr) (w : World)
    (hE : Env w pO (.pointer (some xV))) (hl : len ≤ 1024) (ha : 0 < len → a = some ⟨b, off, none⟩) (hb : 0 < len → b < w.heap.size)
    (ht : ∀ i, i < len → w.cell? ⟨b, off + i * 2, none⟩ = some (.int .u8 (ty i : Int))) (hv : ∀ i, i < len → w.cell? ⟨b, off + i * 2 + 1, none⟩ = some (.bool (va i)))
    (hty : ∀ i, i < len → ty i ≤ 255) (hpt : pt ≤ 255) (hlast : last ≤ 255) :
    Calls Ybad.prog 3 #[.slice a len cap, .bool preset, .int .u8 (pt : Int), .int .u8 (last : Int), .int .i64 gsn] w fun e w' => e = .returned (.bool true) ∧ Below w.heap.size w w' := by
  have hl' : decide ((1024 : Int) < (len : Int)) = false := by simp; omega
  have HE : Hid (Env w pO (.pointer (some xV))) := hE
  have HA : Hid (0 < len → a = some ⟨b, off, none⟩) := ha
  have HBk : Hid (0 < len → b < w.heap.size) := hb
  have HT : Hid (∀ i, i < len → w.cell? ⟨b, off + i * 2, none⟩ = some (.int .u8 (ty i : Int))) := ht
  have HV : Hid (∀ i, i < len → w.cell? ⟨b, off + i * 2 + 1, none⟩ = some (.bool (va i))) := hv
  have HY : Hid (∀ i, i < len → ty i ≤ 255) := hty
  have h3 := hE.three
  clear hE ha hb ht hv hty
  generalize hB : w.heap.size = B at *
  have HB : Hid (w.heap.size = B) := hB
  clear hB
  go_enter Ybad.func3, Ybad.ntmps3
  go_wp2_with (show wpList _ _ _ (Oper.mk _ (.alloc 28) _ _ _ _ :: _) _ _; refine wpList_walker _ rfl rfl ?_; rw [HB.out]; intro w1 hwk hb1 hs1; have HK : Hid _ := hwk; have HL : Hid _ := hb1; have c1 := hwk.c1; have c258 := hwk.c258; have cs := hwk.seen last (by omega); have f1 := hwk.free 1; have f258 := hwk.free 258; have fs := hwk.free (2 + last); have c260 := hwk.c260; have ho : w1.cell? ⟨0, 0, none⟩ = some (.iface 62 pO) := (HE.out.below hb1 h3).o; clear hwk hb1)
  have hwk2 : Wk (((w1.setCell ⟨B, 1, none⟩ (.int .u8 (last : Int))).setCell ⟨B, 258, none⟩ (.int .i64 gsn)).setCell ⟨B, 2 + last, none⟩ (.bool true)) B last gsn (fun i => i == last) .nilIface .nilIface := ((HK.out.set1 last).set258 gsn).setSeen last (by omega)
  have hb2 : Below B w (((w1.setCell ⟨B, 1, none⟩ (.int .u8 (last : Int))).setCell ⟨B, 258, none⟩ (.int .i64 gsn)).setCell ⟨B, 2 + last, none⟩ (.bool true)) := ((HL.out.setCell (Nat.le_refl _) _).setCell (Nat.le_refl _) _).setCell (Nat.le_refl _) _
  clear c1 c258 cs f1 f258 fs c260 ho HK HL hs1
  generalize (((w1.setCell ⟨B, 1, none⟩ (.int .u8 (last : Int))).setCell ⟨B, 258, none⟩ (.int .i64 gsn)).setCell ⟨B, 2 + last, none⟩ (.bool true)) = w2 at hwk2 hb2 ⊢
  refine (err_any pO last hlast w2 (HE.out.below hb2 h3).tab).mono ?_
  rintro e w3 ⟨gd, rfl, hgd, hcd, hb3⟩
  have hwk3 := hwk2.below hb3 hwk2.lt
  have hb3' : Below B w w3 := hb2.trans (hb3.mono (Nat.le_of_lt hwk2.lt))
  have c260 := hwk3.c260
  have f260 := hwk3.free 260
  have hv1 : ∀ v, (w3.setCell ⟨B, 260, none⟩ v).cell? ⟨1, 0, none⟩ = some (.iface 62 (.pointer (some xV))) := fun v => ((hb3'.setCell (Nat.le_refl _) v).cell (p := ⟨1, 0, none⟩) (by show 1 < B; omega)).trans HE.out.v
  have HK : Hid _ := hwk3
  have HL : Hid _ := hb3'
  clear hwk2 hb2 hgd hcd hb3 hwk3 hb3'
  cases preset
  · go_wp2
    have hwk4 := HK.out.set260 (.iface 35 (.pointer (some ⟨gd, 0, none⟩)))
    have hb4 := HL.out.setCell (p := ⟨B, 260, none⟩) (Nat.le_refl _) (.iface 35 (.pointer (some ⟨gd, 0, none⟩)))
    clear hv1 c260 f260 HK HL
    generalize w3.setCell ⟨B, 260, none⟩ (.iface 35 (.pointer (some ⟨gd, 0, none⟩))) = w4 at hwk4 hb4 ⊢
    have HK : Hid _ := hwk4
    have HL : Hid _ := hb4
    clear hwk4 hb4
    go_loopw [14, 15] (fun f i wr => ∃ k : Nat, k ≤ len ∧ i = .int .i64 k ∧ f = .int .i64 (fb va k) ∧ ∃ inv, Hid (Wk wr B last gsn (fun i => i == last) (.iface 35 (.pointer (some ⟨gd, 0, none⟩))) inv) ∧ Hid (St wr (.pointer (some xV)) ty va B k inv) ∧ Hid (Below B w wr)) (fun _ i _ => len - (intOf i).toNat)
    case atStart => exact ⟨0, by omega, rfl, rfl, .nilIface, HK, Or.inl ⟨by simp [fb], rfl⟩, HL⟩
    case round =>
      obtain ⟨k, hk, rfl, rfl, inv, HK, HS, HL⟩ := hrel
      have hfb := fb_bd va k
      by_cases hlt : k < len
      · obtain rfl := HA.out (by omega)
        have htc : wr.cell? ⟨b, off + k * 2, none⟩ = some (.int .u8 (ty k : Int)) := (HL.out.cell (p := ⟨b, off + k * 2, none⟩) (HBk.out (by omega))).trans (HT.out k hlt)
        have hvc : wr.cell? ⟨b, off + k * 2 + 1, none⟩ = some (.bool (va k)) := (HL.out.cell (p := ⟨b, off + k * 2 + 1, none⟩) (HBk.out (by omega))).trans (HV.out k hlt)
        have hwkB := HK.out.lt
        have h3r : 3 ≤ wr.heap.size := by omega
        cases hva : va k
        · rw [hva] at hvc
          rcases HS.out with ⟨hneg, rfl⟩ | ⟨hpos, g0, rfl, hBg, hgc⟩
          · have HF : Hid (fb va (k + 1) = k) := fb_first va k hva hneg
            clear hva
            have HB2 : Hid (Below B w (wr.alloc (.cells #[.int .u8 (ty k : Int), .bool false] 31))) := HL.out.alloc (Nat.le_of_lt hwkB) _
            have HK2 := HK.out.below ((Below.refl _ _).alloc (Nat.le_refl _) (.cells #[.int .u8 (ty k : Int), .bool false] 31)) hwkB
            have HY2 := HY.out k hlt
            have HK3 : Hid _ := HK2
            clear HK2
            go_wp2_with fail
            refine (check_first B (ty k) HY2 pO (.pointer (some xV)) _ (by simp; omega) (HE.out.below HB2.out h3) HK3.out.c261 (HK3.out.free 261)).mono ?_
            rintro e w5 ⟨rfl, g, w6, hgs, hgc, hb6, rfl⟩
            have hc5 : (w6.setCell ⟨B, 261, none⟩ (.iface 35 (.pointer (some ⟨g, 0, none⟩)))).cell? ⟨wr.heap.size, 1, none⟩ = some (.bool false) := by
              rw [World.cell?_setCell_other _ _ _ _ (by intro e; injection e; omega), hb6.cell (p := ⟨wr.heap.size, 1, none⟩) (by simp)]
              simp
            have HK5 := (HK3.out.below hb6 (by simp; omega)).set261 (.iface 35 (.pointer (some ⟨g, 0, none⟩)))
            have HB5 : Below B w (w6.setCell ⟨B, 261, none⟩ (.iface 35 (.pointer (some ⟨g, 0, none⟩)))) := (HB2.out.trans (hb6.mono (by simp; omega))).setCell (Nat.le_refl _) _
            have HS5 : St (w6.setCell ⟨B, 261, none⟩ (.iface 35 (.pointer (some ⟨g, 0, none⟩)))) (.pointer (some xV)) ty va B (k + 1) (.iface 35 (.pointer (some ⟨g, 0, none⟩))) := by
              have hgB : B < g := by simp at hgs; omega
              refine Or.inr ⟨by rw [HF.out]; omega, g, rfl, hgB, ?_⟩
              rw [Below.heap_setCell _ _ _ _ (by show g ≠ B; omega), HF.out, Int.toNat_natCast]
              exact hgc
            generalize w6.setCell ⟨B, 261, none⟩ (.iface 35 (.pointer (some ⟨g, 0, none⟩))) = w7 at hc5 HK5 HB5 HS5 ⊢
            have HK6 : Hid _ := HK5
            have HB6 : Hid _ := HB5
            have HS6 : Hid _ := HS5
            clear HK5 HB5 HS5 hb6 hgc hgs HK3 HB2 HK HS HL htc hvc
            go_wp2
            go_roundw
            case rel => exact ⟨k + 1, by omega, by go_num, i64_eq HF.out.symm, _, HK6, HS6, HB6⟩
            case measure => simp [intOf]; omega
          · have HF : Hid (fb va (k + 1) = fb va k) := fb_again va k hpos
            clear hva
            have HK2 := HK.out.below ((Below.refl _ _).alloc (Nat.le_refl _) (.cells #[.int .u8 (ty k : Int), .bool false] 31)) hwkB
            have HK3 : Hid _ := HK2
            clear HK2 hgc hBg
            go_wp2_with fail
            refine (check_again B (ty k) _ _ (by simp; omega) HK3.out.c261).mono ?_
            rintro e w5 ⟨rfl, rfl⟩
            go_wp2
            go_roundw
            case rel => exact ⟨k + 1, by omega, by go_num, i64_eq HF.out.symm, _, HK.out.below (below_two _ _ _) hwkB, HS.out.next HF.out (below_two _ _ _), HL.out.trans ((below_two _ _ _).mono (by omega))⟩
            case measure => simp [intOf]; omega
        · rw [hva] at hvc
          have HF : Hid (fb va (k + 1) = fb va k) := fb_valid va k hva
          clear hva
          go_wp2_with fail
          refine (check_valid B (ty k) _).mono ?_
          rintro e w5 ⟨rfl, rfl⟩
          go_wp2
          go_roundw
          case rel => exact ⟨k + 1, by omega, by go_num, i64_eq HF.out.symm, _, HK.out.below (below_two _ _ _) hwkB, HS.out.next HF.out (below_two _ _ _), HL.out.trans ((below_two _ _ _).mono (by omega))⟩
          case measure => simp [intOf]; omega
      · obtain rfl : k = len := by omega
        have c0 := HK.out.c0
        have c1 := HK.out.c1
        have c258 := HK.out.c258
        have c259 := HK.out.c259
        have c260 := HK.out.c260
        have c261 := HK.out.c261
        have hnd := neq_det
        have hsr := fun wx => run_neq_slice_nil_any (P := Ybad.prog) wx 23 _ none 0 0 0 0 Ybad.underlying23
        rcases HS.out with ⟨hneg, rfl⟩ | ⟨hpos, g0, rfl, hBg, hgc⟩
        · go_wp2
          go_loop [17] (fun v => ∃ t : Nat, t ≤ 256 ∧ v = .int .i64 t) (fun v => 256 - (intOf v).toNat)
          case atStart => exact ⟨0, by omega, rfl⟩
          case round =>
            obtain ⟨t, ht, rfl⟩ := hrel
            by_cases hlt2 : t < 256
            · have hsn : wr.cell? ⟨B, 2 + t, none⟩ = some (.bool ((t : Int) == (last : Int))) := by
                rw [HK.out.seen t hlt2, beq_cast]
              go_wp2
              exact ⟨⟨t + 1, by omega, by go_num⟩, by simp [intOf]; omega⟩
            · go_wp2
              go_ret
              exact ⟨rfl, HL.out⟩
        · obtain ⟨n, hn⟩ : ∃ n : Nat, fb va k = (n : Int) := ⟨(fb va k).toNat, by omega⟩
          have hnk : n < k := by omega
          rw [hn, Int.toNat_natCast] at hgc
          rw [hn]
          clear hfb hpos
          obtain rfl := HA.out (by omega)
          have htc : wr.cell? ⟨b, off + n * 2, none⟩ = some (.int .u8 (ty n : Int)) := (HL.out.cell (p := ⟨b, off + n * 2, none⟩) (HBk.out (by omega))).trans (HT.out n hnk)
          have hd0 : wr.cell? ⟨g0, 0, none⟩ = some (.iface 62 (.pointer (some xV))) := by simp [World.cell?, hgc]
          have hd1 : wr.cell? ⟨g0, 1, none⟩ = some (.string (det (ty n))) := by simp [World.cell?, hgc]
          have hv1 : wr.cell? ⟨1, 0, none⟩ = some (.iface 62 (.pointer (some xV))) := (HE.out.below HL.out h3).v
          have hn0 : decide ((n : Int) < 0) = false := by simp
          have HN : Hid _ := hn
          have hy := HY.out n hnk
          clear hn hgc
          go_wp2
          go_loop [17] (fun v => ∃ t : Nat, t ≤ 256 ∧ v = .int .i64 t) (fun v => 256 - (intOf v).toNat)
          case atStart => exact ⟨0, by omega, rfl⟩
          case round =>
            obtain ⟨t, ht, rfl⟩ := hrel
            by_cases hlt2 : t < 256
            · have hsn : wr.cell? ⟨B, 2 + t, none⟩ = some (.bool ((t : Int) == (last : Int))) := by
                rw [HK.out.seen t hlt2, beq_cast]
              go_wp2
              exact ⟨⟨t + 1, by omega, by go_num⟩, by simp [intOf]; omega⟩
            · have hta := assert_det
              have hes := eql_sent
              have hns := num_size (ty n) hy
              have hns2 : ¬ 9223372036854775807 < 5 + (num (ty n)).size := by omega
              have hdt : det (ty n) = (⟨#[116, 121, 112, 101, 32]⟩ : ByteArray) ++ num (ty n) := rfl
              go_wp2
              go_region_held3 (fun w' => w'.cell? ⟨g0, 0, none⟩ = some (.iface 62 (.pointer (some xV))) ∧ w'.cell? ⟨g0, 1, none⟩ = some (.string (det (ty n))) ∧ w'.cell? ⟨1, 0, none⟩ = some (.iface 62 (.pointer (some xV))) ∧ w'.cell? ⟨b, off + n * 2, none⟩ = some (.int .u8 (ty n : Int))) (go_keep)
                (first | (go_at_call 6; refine (dec_held n ty g0 b off xV _ hy ?_).mono ?_; (simp [*]); rintro e w' ⟨rfl, q1, q2, q3, q4, q5⟩))
              go_wp2
              go_ret
              exact ⟨rfl, HL.out.drew.trans (q5.mono (Nat.le_of_lt HK.out.lt))⟩
  · go_wp2_with fail
    have hwk4 := HK.out.set260 (.iface 35 (.pointer (some ⟨gd, 0, none⟩)))
    have hb4 := HL.out.setCell (p := ⟨B, 260, none⟩) (Nat.le_refl _) (.iface 35 (.pointer (some ⟨gd, 0, none⟩)))
    clear hv1 c260 f260 HK HL
    generalize w3.setCell ⟨B, 260, none⟩ (.iface 35 (.pointer (some ⟨gd, 0, none⟩))) = w4 at hwk4 hb4 ⊢
    refine (err_any (.pointer (some xV)) pt hpt w4 (HE.out.below hb4 h3).tab).mono ?_
    rintro e w5 ⟨gp, rfl, hgp, hcp, hb5⟩
    have hwk5 := hwk4.below hb5 hwk4.lt
    have hb5' : Below B w w5 := hb4.trans (hb5.mono (Nat.le_of_lt hwk4.lt))
    have c261 := hwk5.c261
    have f261 := hwk5.free 261
    have HK : Hid _ := hwk5
    have HL : Hid _ := hb5'
    clear hwk4 hb4 hgp hcp hb5 hwk5 hb5'
    go_wp2
    have hwk6 := HK.out.set261 (.iface 35 (.pointer (some ⟨gp, 0, none⟩)))
    have hb6 := HL.out.setCell (p := ⟨B, 261, none⟩) (Nat.le_refl _) (.iface 35 (.pointer (some ⟨gp, 0, none⟩)))
    clear c261 f261 HK HL
    generalize w5.setCell ⟨B, 261, none⟩ (.iface 35 (.pointer (some ⟨gp, 0, none⟩))) = w6 at hwk6 hb6 ⊢
    have HK : Hid _ := hwk6
    have HL : Hid _ := hb6
    clear hwk6 hb6
    go_loopw [14, 15] (fun f i wr => ∃ k : Nat, k ≤ len ∧ i = .int .i64 k ∧ f = .int .i64 (fb va k) ∧ Hid (Wk wr B last gsn (fun i => i == last) (.iface 35 (.pointer (some ⟨gd, 0, none⟩))) (.iface 35 (.pointer (some ⟨gp, 0, none⟩)))) ∧ Hid (Below B w wr)) (fun _ i _ => len - (intOf i).toNat)
    case atStart => exact ⟨0, by omega, rfl, rfl, HK, HL⟩
    case round =>
      obtain ⟨k, hk, rfl, rfl, HK, HL⟩ := hrel
      have hfb := fb_bd va k
      by_cases hlt : k < len
      · obtain rfl := HA.out (by omega)
        have htc : wr.cell? ⟨b, off + k * 2, none⟩ = some (.int .u8 (ty k : Int)) := (HL.out.cell (p := ⟨b, off + k * 2, none⟩) (HBk.out (by omega))).trans (HT.out k hlt)
        have hvc : wr.cell? ⟨b, off + k * 2 + 1, none⟩ = some (.bool (va k)) := (HL.out.cell (p := ⟨b, off + k * 2 + 1, none⟩) (HBk.out (by omega))).trans (HV.out k hlt)
        have hwkB := HK.out.lt
        have h3r : 3 ≤ wr.heap.size := by omega
        cases hva : va k
        · rw [hva] at hvc
          have HK2 := HK.out.below ((Below.refl _ _).alloc (Nat.le_refl _) (.cells #[.int .u8 (ty k : Int), .bool false] 31)) hwkB
          have HK3 : Hid _ := HK2
          clear HK2
          by_cases hneg : fb va k < 0
          · have HF : Hid (fb va (k + 1) = k) := fb_first va k hva hneg
            clear hva
            go_wp2_with fail
            refine (check_again B (ty k) _ _ (by simp; omega) HK3.out.c261).mono ?_
            rintro e w7 ⟨rfl, rfl⟩
            go_wp2
            go_roundw
            case rel => exact ⟨k + 1, by omega, by go_num, i64_eq HF.out.symm, HK.out.below (below_two _ _ _) hwkB, HL.out.trans ((below_two _ _ _).mono (by omega))⟩
            case measure => simp [intOf]; omega
          · have HF : Hid (fb va (k + 1) = fb va k) := fb_again va k (by omega)
            clear hva
            go_wp2_with fail
            refine (check_again B (ty k) _ _ (by simp; omega) HK3.out.c261).mono ?_
            rintro e w7 ⟨rfl, rfl⟩
            go_wp2
            go_roundw
            case rel => exact ⟨k + 1, by omega, by go_num, i64_eq HF.out.symm, HK.out.below (below_two _ _ _) hwkB, HL.out.trans ((below_two _ _ _).mono (by omega))⟩
            case measure => simp [intOf]; omega
        · rw [hva] at hvc
          have HF : Hid (fb va (k + 1) = fb va k) := fb_valid va k hva
          clear hva
          go_wp2_with fail
          refine (check_valid B (ty k) _).mono ?_
          rintro e w7 ⟨rfl, rfl⟩
          go_wp2
          go_roundw
          case rel => exact ⟨k + 1, by omega, by go_num, i64_eq HF.out.symm, HK.out.below (below_two _ _ _) hwkB, HL.out.trans ((below_two _ _ _).mono (by omega))⟩
          case measure => simp [intOf]; omega
      · obtain rfl : k = len := by omega
        have c0 := HK.out.c0
        have c1 := HK.out.c1
        have c258 := HK.out.c258
        have c259 := HK.out.c259
        have c260 := HK.out.c260
        have c261 := HK.out.c261
        have hnd := neq_det
        have hed := eql_det
        have hsr := fun wx => run_neq_slice_nil_any (P := Ybad.prog) wx 23 _ none 0 0 0 0 Ybad.underlying23
        go_wp2
        go_loop [17] (fun v => ∃ t : Nat, t ≤ 256 ∧ v = .int .i64 t) (fun v => 256 - (intOf v).toNat)
        case atStart => exact ⟨0, by omega, rfl⟩
        case round =>
          obtain ⟨t, ht, rfl⟩ := hrel
          by_cases hlt2 : t < 256
          · have hsn : wr.cell? ⟨B, 2 + t, none⟩ = some (.bool ((t : Int) == (last : Int))) := by
              rw [HK.out.seen t hlt2, beq_cast]
            go_wp2
            exact ⟨⟨t + 1, by omega, by go_num⟩, by simp [intOf]; omega⟩
          · go_wp2
            go_ret
            exact ⟨rfl, HL.out⟩

end Go.Proofs.YbulkcacmDoor
