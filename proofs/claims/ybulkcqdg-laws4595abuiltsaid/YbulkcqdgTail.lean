/-
  THE WALK of '(*Reader).frameAt' (function 7) WHERE THE WHOLE FRAME IS THERE.
-/
import Derived.Test.YbulkcqdgFrame
namespace Go.Proofs.Ybulkcqdg
open Go.RowKit Go.Deep

set_option maxHeartbeats 2000000 in
theorem frame_tail (rb bb n cap e p S : Nat) (c0 c1 c2 c3 : Int) (w : World) (_hpe : p ≤ e) (hen : e ≤ n) (hn : n ≤ 100000) (hrb : rb < w.heap.size) (hend : w.cell? ⟨rb, 11, none⟩ = some (.int .i64 e)) (hbuf : w.cell? ⟨rb, 7, none⟩ = some (.slice (some ⟨bb, 0, none⟩) n cap))
    (hcap : n ≤ cap) (hb : bb < w.heap.size) (h0 : 0 ≤ c0 ∧ c0 ≤ 255) (h1 : 0 ≤ c1 ∧ c1 ≤ 255) (h2 : 0 ≤ c2 ∧ c2 ≤ 255) (h3 : 0 ≤ c3 ∧ c3 ≤ 255)
    (hc0 : w.cell? ⟨bb, p + 2, none⟩ = some (.int .u8 c0)) (hc1 : w.cell? ⟨bb, p + 2 + 1, none⟩ = some (.int .u8 c1)) (hc2 : w.cell? ⟨bb, p + S - 2, none⟩ = some (.int .u8 c2)) (hc3 : w.cell? ⟨bb, p + S - 2 + 1, none⟩ = some (.int .u8 c3))
    (hS : Hid ((S : Int) = 4 + (c0 * 256 + c1)))
    (hs : 4 ≤ (e : Int) - p) (hg1 : decide ((S : Int) < 21) = false) (hg2 : decide ((32768 : Int) < (S : Int)) = false) (hge : (S : Int) ≤ (e : Int) - p) (hS21 : 21 ≤ S) (ST : Int) (hST : Hid (ST = if c2 = 252 ∧ c3 = 238 then 1 else 3)) :
    Calls Yba.prog 7 #[.pointer (some ⟨rb, 0, none⟩), .int .i64 p] w fun e' w' => e' = .returned (.tuple #[.int .i64 ST, .int .i64 S]) ∧ Below w.heap.size w w' := by
  have hsl := slice_from bb n cap (p + 2) (by omega) (by omega) ((p : Int) + 2) (by omega)
  have hsl2 := slice_from bb n cap (p + S - 2) (by omega) (by omega) ((p : Int) + S - 2) (by omega)
  have hw1 := wrap_in ((p : Int) + 2) (by omega) (by omega)
  have hw2 := wrap_in (c0 * 256 + c1) (by omega) (by omega)
  have hw3 : IntKind.i64.wrap (4 + (c0 * 256 + c1)) = (S : Int) := by rw [wrap_in _ (by omega) (by omega), hS.out]
  have hw4 := wrap_in ((p : Int) + S) (by omega) (by omega)
  have hw5 := wrap_in ((p : Int) + S - 2) (by omega) (by omega)
  have hend2 : (w.alloc (.cells #[] 52)).cell? ⟨rb, 11, none⟩ = some (.int .i64 e) := (World.cell?_alloc_past _ _ _ hrb).trans hend
  have hbuf2 : (w.alloc (.cells #[] 52)).cell? ⟨rb, 7, none⟩ = some (.slice (some ⟨bb, 0, none⟩) n cap) := (World.cell?_alloc_past _ _ _ hrb).trans hbuf
  have hd2 : (w.alloc (.cells #[] 52)).cell? ⟨bb, p + S - 2, none⟩ = some (.int .u8 c2) := (World.cell?_alloc_past _ _ _ hb).trans hc2
  have hd3 : (w.alloc (.cells #[] 52)).cell? ⟨bb, p + S - 2 + 1, none⟩ = some (.int .u8 c3) := (World.cell?_alloc_past _ _ _ hb).trans hc3
  go_enter Yba.func7, Yba.ntmps7
  go_wp2
  go_region_with (go_at_call 11; refine (be_any bb (p + 2) (n - (p + 2)) (cap - (p + 2)) c0 c1 _ (by omega) h0 h1 ?_ ?_ ?_).mono ?_; exact hb; exact hc0; exact hc1; rintro e w1 ⟨rfl, k1, rfl⟩)
  all_goals
    by_cases ht : (c2 * 256 + c3 != 64750) = true
    · have HT3 : Hid (ST = 3) := by
        rw [hST.out, if_neg (by rw [bne_iff_ne] at ht; omega)]; rfl
      go_wp2
      go_region_with (go_at_call 11; refine (be_any bb (p + S - 2) (n - (p + S - 2)) (cap - (p + S - 2)) c2 c3 _ (by omega) h2 h3 ?_ ?_ ?_).mono ?_; simp; omega; exact hd2; exact hd3; rintro e w1 ⟨rfl, k2, rfl⟩)
      all_goals go_wp2
      all_goals go_ret2
      all_goals exact ⟨(congrArg (fun x : Int => Ending.returned (.tuple #[.int .i64 x, .int .i64 (S : Int)])) HT3.out).symm, Below.trans (((Below.refl _ w).alloc (Nat.le_refl _) _).trans (c := (w.alloc (.cells #[] 52)).drewN _) ⟨rfl, rfl, rfl, Nat.le_refl _, fun _ _ => rfl⟩) (Below.trans ((Below.refl _ _).alloc (by simp) _) ⟨rfl, rfl, rfl, Nat.le_refl _, fun _ _ => rfl⟩)⟩
    · have hf : (c2 * 256 + c3 != 64750) = false := by simpa using ht
      have HT1 : Hid (ST = 1) := by
        rw [hST.out, if_pos (by rw [bne_eq_false_iff_eq] at hf; omega)]; rfl
      clear ht
      go_wp2
      go_region_with (go_at_call 11; refine (be_any bb (p + S - 2) (n - (p + S - 2)) (cap - (p + S - 2)) c2 c3 _ (by omega) h2 h3 ?_ ?_ ?_).mono ?_; simp; omega; exact hd2; exact hd3; rintro e w1 ⟨rfl, k2, rfl⟩)
      all_goals go_wp2
      all_goals go_ret2
      all_goals exact ⟨(congrArg (fun x : Int => Ending.returned (.tuple #[.int .i64 x, .int .i64 (S : Int)])) HT1.out).symm, Below.trans (((Below.refl _ w).alloc (Nat.le_refl _) _).trans (c := (w.alloc (.cells #[] 52)).drewN _) ⟨rfl, rfl, rfl, Nat.le_refl _, fun _ _ => rfl⟩) (Below.trans ((Below.refl _ _).alloc (by simp) _) ⟨rfl, rfl, rfl, Nat.le_refl _, fun _ _ => rfl⟩)⟩
end Go.Proofs.Ybulkcqdg
