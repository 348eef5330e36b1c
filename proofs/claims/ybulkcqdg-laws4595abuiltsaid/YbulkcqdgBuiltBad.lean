/-
  THE WALK of 'LawS4595ABuilt' (function 4), THE TAIL SPOILT: the text of YbulkcqdgBuiltLaw with the other tail.
-/
import Derived.Test.YbulkcqdgBuiltLaw
namespace Go.Proofs.Ybulkcqdg
open Go.RowKit Go.Deep

set_option maxHeartbeats 2000000 in
set_option maxRecDepth 20000 in
theorem built_bad (a0 a1 a2 : Option Addr) (n0 c0 n1 c1 n2 c2 : Nat) (z0 z1 z2 : List Int) (ct : Int) (w : World) (h0 : n0 ≤ 4096) (h1 : n1 ≤ 4096) (h2 : n2 ≤ 4096) (hct : 0 ≤ ct ∧ ct ≤ 4294967295)
    (r0 : Came w a0 n0 c0 z0) (r1 : Came w a1 n1 c1 z1) (r2 : Came w a2 n2 c2 z2)
    (b0 : ∀ q, 0 ≤ z0.getD q 0 ∧ z0.getD q 0 ≤ 255) (b1 : ∀ q, 0 ≤ z1.getD q 0 ∧ z1.getD q 0 ≤ 255) (b2 : ∀ q, 0 ≤ z2.getD q 0 ∧ z2.getD q 0 ≤ 255) :
    Calls Yba.prog 4 #[.slice a0 n0 c0, .slice a1 n1 c1, .slice a2 n2 c2, .int .u32 ct, .bool true] w fun e w' => e = .returned (.bool true) ∧ Below w.heap.size w w' := by
  obtain ⟨i0, hi, hz0, hz1, hz2⟩ := info_parts Yba.info5
  have g0 : decide ((4096 : Int) < (n0 : Int)) = false := decide_eq_false (by omega)
  have g1 : decide ((4096 : Int) < (n1 : Int)) = false := decide_eq_false (by omega)
  have g2 : decide ((4096 : Int) < (n2 : Int)) = false := decide_eq_false (by omega)
  have R0 : Hid (Came w a0 n0 c0 z0) := r0
  have R1 : Hid (Came w a1 n1 c1 z1) := r1
  have R2 : Hid (Came w a2 n2 c2 z2) := r2
  have B0 : Hid _ := b0
  have B1 : Hid _ := b1
  have B2 : Hid _ := b2
  clear r0 r1 r2 b0 b1 b2
  go_enter Yba.func4, Yba.ntmps4
  go_upto_if 38 with fail
  go_cut [11] (fun v wx => ∃ BL : Nat, v = .int .i64 BL ∧ n1 ≤ BL ∧ 15 ≤ BL ∧ BL ≤ 4096 ∧ (BL ≤ 15 ∨ BL ≤ n1) ∧ w = wx)
  case first =>
    by_cases hlt : n1 < 15
    all_goals
      go_wp2
      go_meet
      case rel => first | exact ⟨15, rfl, by omega, by omega, by omega, by omega, rfl⟩ | exact ⟨n1, rfl, by omega, by omega, by omega, by omega, rfl⟩
  case rest =>
    obtain ⟨BL, rfl, hl1, hl2, hl3, hl4, rfl⟩ := hcut
    obtain ⟨C, hC1, hC2⟩ : ∃ C, n0 + (6 + BL) + n2 ≤ C ∧ C ≤ n0 + (6 + BL) + n2 := ⟨_, Nat.le_refl _, Nat.le_refl _⟩
    obtain ⟨gw, hgw⟩ : ∃ gw, gw = w.heap.size := ⟨_, rfl⟩
    have HGw : Hid (gw = w.heap.size) := hgw
    go_wp2_with (at_make; refine wpList_make_own _ rfl _ _ 22 rfl w.heap.size 5 i0 (.int .u8 0) 1 Yba.underlying22 hi hz0 hz1 _ _ _ C rfl rfl (by omega) ?b2 ?b3 (Nat.le_refl _) ?_)
    case b2 => rw [hz2]; omega
    case b3 => unfold maxLen; omega
    intro w1 hown1 hgrow1
    have hb1 : Below w.heap.size w w1 := (Below.refl _ _).grown hgrow1 (Nat.le_refl _) (fun k hk => by cases hk)
    rw [← hgw] at hown1 hb1 ⊢
    clear hgrow1 hgw
    have HB1 : Hid _ := hb1
    clear hb1
    have hp0 : (bs z0).length = n0 * 1 := by rw [bs_length, R0.out.1, Nat.mul_one]
    have hq0 := R0.out.later (by rw [← HGw.out]; exact HB1.out)
    go_wp2_with (first
      | (at_builtin; refine wpList_append_fits_any _ rfl (.tmp 51) (.tmp 52) 22 rfl gw 5 i0 1 Yba.underlying22 hi hz1 gw 0 C _ rfl hown1 a0 n0 c0 (bs z0) rfl hp0 R0.out.2.1 hq0 (bs_one _) (by omega) ?_)
      | fail)
    intro w2 hown2 hgrow2
    have hown2' : w2.ownsRow gw 5 1 (.slice (some ⟨gw, 0, none⟩) n0 C) n0 (bs z0) := by simpa using hown2
    have hb2 : Below gw w w2 := HB1.out.grown hgrow2 (by have := HB1.out.size; have := HGw.out; omega) (fun k hk => by cases hk; exact Nat.le_refl _)
    have hs2 := hb2.size
    have HB2 : Hid _ := hb2
    clear hown2 hgrow2 hown1 HB1 hq0 hp0 hb2
    obtain ⟨HD, hHD⟩ : ∃ HD : List Int, HD = [170, 85, (6 + (BL : Int) - 4) / 256, (6 + (BL : Int) - 4) % 256] := ⟨_, rfl⟩
    have HHD : Hid _ := hHD
    clear hHD
    go_wp2_with (first
      | (at_builtin; refine wpList_append_fits _ rfl (.tmp 54) (.tmp 60) 22 rfl gw 5 i0 1 Yba.underlying22 hi hz1 gw n0 C _ rfl (hown2'.alloc _) ⟨w2.heap.size, 0, none⟩ 4 4 (bs HD) rfl (by rw [HHD.out]; rfl) (lit_new _ _ _ (by rw [HHD.out]; rfl) _) (bs_one _) (by omega) ?_)
      | fail)
    intro w3 hown3 hgrow3
    have hb3 : Below gw w w3 := (HB2.out.alloc (by have := HB2.out.size; have := HGw.out; omega) _).grown hgrow3 (by have := HB2.out.size; have := HGw.out; simp; omega) (fun k hk => by cases hk; exact Nat.le_refl _)
    obtain ⟨X1, hX1⟩ : ∃ X1, X1 = z0 ++ HD := ⟨_, rfl⟩
    have hown3' : w3.ownsRow gw 5 1 (.slice (some ⟨gw, 0, none⟩) (n0 + 4) C) (n0 + 4) (bs X1) := by rw [hX1, bs_append]; exact hown3
    have HX1 : Hid _ := hX1
    have HB3 : Hid _ := hb3
    have hp1 : (bs z1).length = n1 * 1 := by rw [bs_length, R1.out.1, Nat.mul_one]
    have hq1 := R1.out.later (by rw [← HGw.out]; exact hb3)
    clear hown2' hgrow3 hown3 HB2 hX1 hb3 hs2
    go_wp2_with (first
      | (at_builtin; refine wpList_append_fits_any _ rfl (.tmp 62) (.tmp 63) 22 rfl gw 5 i0 1 Yba.underlying22 hi hz1 gw (n0 + 4) C _ rfl hown3' a1 n1 c1 (bs z1) rfl hp1 R1.out.2.1 hq1 (bs_one _) (by omega) ?_)
      | fail)
    intro w4 hown4 hgrow4
    have hb4 : Below gw w w4 := HB3.out.grown hgrow4 (by have := HB3.out.size; have := HGw.out; omega) (fun k hk => by cases hk; exact Nat.le_refl _)
    obtain ⟨X2, hX2⟩ : ∃ X2, X2 = X1 ++ z1 := ⟨_, rfl⟩
    have hown4' : w4.ownsRow gw 5 1 (.slice (some ⟨gw, 0, none⟩) (n0 + 4 + n1) C) (n0 + 4 + n1) (bs X2) := by rw [hX2, bs_append]; exact hown4
    have HX2 : Hid _ := hX2
    have HB4 : Hid _ := hb4
    clear hown3' hgrow4 hown4 HB3 hX2 hb4 hp1 hq1
    go_wp2
    go_loopw [14, 15] (fun bv i wr => ∃ k : Nat, n1 ≤ k ∧ k ≤ BL ∧ i = .int .i64 k ∧ bv = .slice (some ⟨gw, 0, none⟩) (n0 + 4 + k) C ∧
        wr.ownsRow gw 5 1 (.slice (some ⟨gw, 0, none⟩) (n0 + 4 + k) C) (n0 + 4 + k) (bs (X2 ++ List.replicate (k - n1) 0)) ∧ Below gw w wr) (fun _ i _ => BL - (intOf i).toNat)
    case atStart => exact ⟨n1, Nat.le_refl _, hl1, rfl, rfl, by rw [Nat.sub_self]; simpa using hown4', HB4.out⟩
    case round =>
      clear hown4' HB4
      obtain ⟨k, hk1, hk2, rfl, rfl, hown, hb⟩ := hrel
      have hsr := hb.size
      by_cases hlt : k < BL
      · have HT : Hid (X2 ++ List.replicate (k + 1 - n1) 0 = (X2 ++ List.replicate (k - n1) 0) ++ [(0 : Int)]) := by
          show _ = _
          rw [show k + 1 - n1 = (k - n1) + 1 by omega, List.replicate_succ', List.append_assoc]
        go_wp2_with (first
          | (at_builtin; refine wpList_append_fits _ rfl (.tmp 72) (.tmp 73) 22 rfl gw 5 i0 1 Yba.underlying22 hi hz1 gw (n0 + 4 + k) C _ rfl (hown.alloc _) ⟨wr.heap.size, 0, none⟩ 1 1 (bs [0]) rfl rfl (lit_new _ _ _ rfl _) (bs_one _) (by omega) ?_)
          | fail)
        intro w' hown' hgrow'
        have hb' : Below gw w w' := (hb.alloc (by have := HGw.out; omega) _).grown hgrow' (by have := HGw.out; simp; omega) (fun k hk => by cases hk; exact Nat.le_refl _)
        have HO : Hid (w'.ownsRow gw 5 1 (.slice (some ⟨gw, 0, none⟩) (n0 + 4 + k + 1) C) (n0 + 4 + k + 1) (bs ((X2 ++ List.replicate (k - n1) 0) ++ [(0 : Int)]))) := by
          show World.ownsRow _ _ _ _ _ _ _
          rw [bs_append]; exact hown'
        have HB' : Hid _ := hb'
        clear hown' hgrow' hown hb hb'
        go_wp2
        go_roundw
        case rel => exact ⟨k + 1, by omega, by omega, by go_num, rfl, by rw [HT.out]; exact HO.out, HB'.out⟩
        case measure => simp [intOf]; omega
      · have e : BL = k := by omega
        subst e
        rename World => w5
        obtain ⟨X3, hX3⟩ : ∃ X3, X3 = X2 ++ List.replicate (BL - n1) 0 := ⟨_, rfl⟩
        rw [← hX3] at hown
        have HX3 : Hid _ := hX3
        have HB5 : Hid _ := hb
        clear hb hX3
        obtain ⟨TL, hTL⟩ : ∃ TL : List Int, TL = [252, 239] := ⟨_, rfl⟩
        have HTL : Hid _ := hTL
        clear hTL
        go_wp2_with (first
          | (at_builtin; refine wpList_append_fits _ rfl (.tmp 76) (.tmp 77) 22 rfl gw 5 i0 1 Yba.underlying22 hi hz1 gw (n0 + 4 + BL) C _ rfl (hown.alloc _) ⟨w5.heap.size, 0, none⟩ 2 2 (bs TL) rfl (by rw [HTL.out]; rfl) (lit_new _ _ _ (by rw [HTL.out]; rfl) _) (bs_one _) (by omega) ?_)
          | fail)
        intro w6 hown6 hgrow6
        have hb6 : Below gw w w6 := (HB5.out.alloc (by have := HB5.out.size; have := HGw.out; omega) _).grown hgrow6 (by have := HB5.out.size; have := HGw.out; simp; omega) (fun k hk => by cases hk; exact Nat.le_refl _)
        obtain ⟨X4, hX4⟩ : ∃ X4, X4 = X3 ++ TL := ⟨_, rfl⟩
        have hown6' : w6.ownsRow gw 5 1 (.slice (some ⟨gw, 0, none⟩) (n0 + 4 + BL + 2) C) (n0 + 4 + BL + 2) (bs X4) := by rw [hX4, bs_append]; exact hown6
        have HX4 : Hid _ := hX4
        have HB6 : Hid _ := hb6
        have hp2 : (bs z2).length = n2 * 1 := by rw [bs_length, R2.out.1, Nat.mul_one]
        have hq2 := R2.out.later (by rw [← HGw.out]; exact hb6)
        clear hown hgrow6 hown6 HB5 hX4 hb6
        go_wp2_with (first
          | (at_builtin; refine wpList_append_fits_any _ rfl (.tmp 82) (.tmp 83) 22 rfl gw 5 i0 1 Yba.underlying22 hi hz1 gw (n0 + 4 + BL + 2) C _ rfl hown6' a2 n2 c2 (bs z2) rfl hp2 R2.out.2.1 hq2 (bs_one _) (by omega) ?_)
          | fail)
        intro w7 hown7 hgrow7
        have hb7 : Below gw w w7 := HB6.out.grown hgrow7 (by have := HB6.out.size; have := HGw.out; omega) (fun k hk => by cases hk; exact Nat.le_refl _)
        obtain ⟨X5, hX5⟩ : ∃ X5, X5 = X4 ++ z2 := ⟨_, rfl⟩
        have hown7' : w7.ownsRow gw 5 1 (.slice (some ⟨gw, 0, none⟩) (n0 + 4 + BL + 2 + n2) C) (n0 + 4 + BL + 2 + n2) (bs X5) := by rw [hX5, bs_append]; exact hown7
        have HX5 : Hid _ := hX5
        have HB7 : Hid _ := hb7
        clear hown6' hgrow7 hown7 HB6 hX5 hb7 hp2 hq2
        go_wp2_with fail
        have hmod := Int.emod_nonneg ct (show ((n0 : Int) + 4 + BL + 2 + n2 - n0 + 1) ≠ 0 by omega)
        have hmod2 := Int.emod_lt_of_pos ct (show 0 < ((n0 : Int) + 4 + BL + 2 + n2 - n0 + 1) by omega)
        obtain ⟨E, hE, hE1, hE2⟩ : ∃ E : Nat, wrap64 ((n0 : Int) + wrap64 (ct % ((n0 : Int) + 4 + BL + 2 + n2 - n0 + 1))) = (E : Int) ∧ n0 ≤ E ∧ E ≤ n0 + 4 + BL + 2 + n2 :=
          ⟨n0 + (ct % ((n0 : Int) + 4 + BL + 2 + n2 - n0 + 1)).toNat, by
            rw [IntWalk.wrap64_in (ct % _) ⟨by omega, by omega⟩, IntWalk.wrap64_in _ ⟨by omega, by omega⟩]; omega, by omega, by omega⟩
        rw [hE]
        clear hmod hmod2 hE
        have hlen5 : X5.length = n0 + 4 + BL + 2 + n2 := by have := hown7'.1; rw [bs_length] at this; omega
        have hgw7 := (hown7'.lt gw rfl).2
        have AB : AllB X5 := by
          rw [HX5.out, HX4.out, HX3.out, HX2.out, HX1.out, HHD.out, HTL.out]
          refine AllB.append (AllB.append (AllB.append (AllB.append (AllB.append B0.out (AllB.of_mem ?_)) B1.out) (AllB.of_mem ?_)) (AllB.of_mem ?_)) B2.out
          · intro x hx; simp only [List.mem_cons, List.mem_nil_iff, or_false] at hx; rcases hx with rfl | rfl | rfl | rfl <;> omega
          · intro x hx; rw [List.mem_replicate] at hx; omega
          · intro x hx; simp only [List.mem_cons, List.mem_nil_iff, or_false] at hx; rcases hx with rfl | rfl <;> omega
        have HF : Hid (frame X5 E n0 = if (E : Int) - n0 < 4 then (0, 4) else if (E : Int) - n0 < 6 + BL then (0, 6 + (BL : Int)) else (3, 6 + (BL : Int))) :=
          built_frame z0 (z1 ++ List.replicate (BL - n1) 0) z2 ((6 + (BL : Int) - 4) / 256) ((6 + (BL : Int) - 4) % 256) 239 n0 BL E R0.out.1 (by rw [List.length_append, List.length_replicate, R1.out.1]; omega) hl2 hl3 (by omega) X5
            (by rw [HX5.out, HX4.out, HX3.out, HX2.out, HX1.out, HHD.out, HTL.out]; simp)
        have HAB : Hid _ := AB
        have HO7 : Hid _ := hown7'
        clear AB
        refine (frame_all w7.heap.size gw (n0 + 4 + BL + 2 + n2) C E n0 X5 _ hE1 hE2 (by omega) ?_ ?_ ?_ (by omega) ?_ ?_ HAB.out).mono ?_
        · simp
        · rw [World.cell?_alloc_at _ _ _ _ rfl]; rfl
        · rw [World.cell?_alloc_at _ _ _ _ rfl]; rfl
        · simp; omega
        · intro q hq
          rw [World.cell?_alloc_past _ _ _ hgw7, hown7'.cellAt q (by omega)]
          exact bs_at X5 q (by omega)
        rintro e w8 ⟨rfl, hb8⟩
        have HB8 : Hid (Below w.heap.size w w8) := by
          have h7 : Below w.heap.size w w7 := by rw [← HGw.out]; exact HB7.out
          exact (h7.alloc h7.size _).trans (hb8.mono (by have := h7.size; simp; omega))
        clear hown7' HO7 hb8
        by_cases c1 : (E : Int) - n0 < 4
        · have hf : frame X5 E n0 = (0, 4) := by rw [HF.out, if_pos c1]
          rw [hf]
          go_wp2
          go_ret
          exact ⟨rfl, HB8.out⟩
        · by_cases c2 : (E : Int) - n0 < 6 + BL
          · have hf : frame X5 E n0 = (0, 6 + (BL : Int)) := by rw [HF.out, if_neg c1, if_pos c2]
            rw [hf]
            go_wp2
            go_ret
            exact ⟨rfl, HB8.out⟩
          · have hf : frame X5 E n0 = (3, 6 + (BL : Int)) := by rw [HF.out, if_neg c1, if_neg c2]
            rw [hf]
            go_wp2
            go_ret
            exact ⟨rfl, HB8.out⟩
end Go.Proofs.Ybulkcqdg
