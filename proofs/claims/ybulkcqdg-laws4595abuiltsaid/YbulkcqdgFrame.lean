/-
  THE WALKS of '(*Reader).frameAt' (function 7) and of 'zzs4595amodel' (function 8): both answer 'frame'.
-/
import Derived.Test.YbulkcqdgBe
import Derived.RegionTactic
import Derived.BigRegion
import Derived.Deep.RegionWith
namespace Go.Proofs.Ybulkcqdg
open Go.RowKit Go.Deep

/-- The size that the length field at p says. -/
def fsize (z : List Int) (p : Nat) : Int := 4 + (z.getD (p + 2) 0 * 256 + z.getD (p + 3) 0)

/-- What the bytes from p hold, e bytes being there; and how many bytes the frame takes. -/
def frame (z : List Int) (e p : Nat) : Int × Int :=
  if (e : Int) - p < 4 then (0, 4)
  else if fsize z p < 21 ∨ 32768 < fsize z p then (2, 0)
  else if (e : Int) - p < fsize z p then (0, fsize z p)
  else if z.getD (p + (fsize z p).toNat - 2) 0 = 252 ∧ z.getD (p + (fsize z p).toNat - 1) 0 = 238 then (1, fsize z p)
  else (3, fsize z p)

set_option maxHeartbeats 1000000 in
theorem frame_short (rb e p : Nat) (w : World) (hpe : p ≤ e) (_he : e ≤ 100000) (hend : w.cell? ⟨rb, 11, none⟩ = some (.int .i64 e)) (hs : (e : Int) - p < 4) :
    Calls Yba.prog 7 #[.pointer (some ⟨rb, 0, none⟩), .int .i64 p] w fun e' w' => e' = .returned (.tuple #[.int .i64 0, .int .i64 4]) ∧ w' = w := by
  go_enter Yba.func7, Yba.ntmps7
  go_wp2
  go_ret2
  exact ⟨rfl, rfl⟩

/-- 'buf[i:]', i below the capacity. -/
theorem slice_from (bb n cap i : Nat) (hi : i ≤ n) (hc : i < cap) (x : Int) (hx : x = (i : Int)) (W : World) :
    (Instr.slice 22 (.slice (some ⟨bb, 0, none⟩) n cap) (some (.int .i64 x)) none none).run Yba.prog W = .ok (.slice (some ⟨bb, i, none⟩) (n - i) (cap - i)) W := by
  subst hx
  have e5 : (sizeOf (Yba.prog.elem 22)).run Yba.prog W = .ok 1 W := by kernel_rfl
  rw [run_slice_l W 22 (some ⟨bb, 0, none⟩) n cap (by kernel_rfl) .i64 (i : Int) (by omega) (by omega), e5]
  simp only [Result.andThen, sliced, Int.toNat_natCast, Nat.mul_one]
  rw [if_neg (by omega)]
  simp [Addr.add]
  intro h
  subst h
  rfl

theorem sliceAt_from (bb n cap i : Nat) (hi : i ≤ n) (hc : i < cap) (x : Int) (hx : x = (i : Int)) (W : World) :
    (Instr.sliceAt 22 (.slice (some ⟨bb, 0, none⟩) n cap) (some (.int .i64 x)) none none).run Yba.prog W = .ok (.slice (some ⟨bb, i, none⟩) (n - i) (cap - i)) W := by
  rw [run_sliceAt_slice W 22 _ _ _ _ (by kernel_rfl)]
  exact slice_from bb n cap i hi hc x hx W

theorem wrap_in (x : Int) (h0 : -1000000 ≤ x) (h1 : x ≤ 1000000) : IntKind.i64.wrap x = x := by
  rw [IntKind.wrap_i64]
  omega

set_option maxHeartbeats 1000000 in
theorem frame_bad (rb bb n cap e p S : Nat) (c0 c1 : Int) (w : World) (_hpe : p ≤ e) (hen : e ≤ n) (hn : n ≤ 100000) (hend : w.cell? ⟨rb, 11, none⟩ = some (.int .i64 e)) (hbuf : w.cell? ⟨rb, 7, none⟩ = some (.slice (some ⟨bb, 0, none⟩) n cap))
    (hcap : n ≤ cap) (hb : bb < w.heap.size) (h0 : 0 ≤ c0 ∧ c0 ≤ 255) (h1 : 0 ≤ c1 ∧ c1 ≤ 255)
    (hc0 : w.cell? ⟨bb, p + 2, none⟩ = some (.int .u8 c0)) (hc1 : w.cell? ⟨bb, p + 2 + 1, none⟩ = some (.int .u8 c1)) (hS : Hid ((S : Int) = 4 + (c0 * 256 + c1)))
    (hs : 4 ≤ (e : Int) - p) (hbad : decide ((S : Int) < 21) = true ∨ decide ((S : Int) < 21) = false ∧ decide ((32768 : Int) < (S : Int)) = true) :
    Calls Yba.prog 7 #[.pointer (some ⟨rb, 0, none⟩), .int .i64 p] w fun e' w' => e' = .returned (.tuple #[.int .i64 2, .int .i64 0]) ∧ Below w.heap.size w w' := by
  have hsl := slice_from bb n cap (p + 2) (by omega) (by omega) ((p : Int) + 2) (by omega)
  have hw1 := wrap_in ((p : Int) + 2) (by omega) (by omega)
  have hw2 := wrap_in (c0 * 256 + c1) (by omega) (by omega)
  have hw3 : IntKind.i64.wrap (4 + (c0 * 256 + c1)) = (S : Int) := by rw [wrap_in _ (by omega) (by omega), hS.out]
  rcases hbad with hbad | ⟨hbad, hbad2⟩
  all_goals
    go_enter Yba.func7, Yba.ntmps7
    go_wp2
    go_region_with (go_at_call 11; refine (be_any bb (p + 2) (n - (p + 2)) (cap - (p + 2)) c0 c1 _ (by omega) h0 h1 ?_ ?_ ?_).mono ?_; exact hb; exact hc0; exact hc1; rintro e w1 ⟨rfl, k1, rfl⟩)
    all_goals go_wp2
    all_goals go_ret2
    all_goals exact ⟨rfl, ((Below.refl _ w).alloc (Nat.le_refl _) _).trans ⟨rfl, rfl, rfl, Nat.le_refl _, fun _ _ => rfl⟩⟩

set_option maxHeartbeats 1000000 in
theorem frame_coming (rb bb n cap e p S : Nat) (c0 c1 : Int) (w : World) (_hpe : p ≤ e) (hen : e ≤ n) (hn : n ≤ 100000) (hrb : rb < w.heap.size) (hend : w.cell? ⟨rb, 11, none⟩ = some (.int .i64 e)) (hbuf : w.cell? ⟨rb, 7, none⟩ = some (.slice (some ⟨bb, 0, none⟩) n cap))
    (hcap : n ≤ cap) (hb : bb < w.heap.size) (h0 : 0 ≤ c0 ∧ c0 ≤ 255) (h1 : 0 ≤ c1 ∧ c1 ≤ 255)
    (hc0 : w.cell? ⟨bb, p + 2, none⟩ = some (.int .u8 c0)) (hc1 : w.cell? ⟨bb, p + 2 + 1, none⟩ = some (.int .u8 c1)) (hS : Hid ((S : Int) = 4 + (c0 * 256 + c1)))
    (hs : 4 ≤ (e : Int) - p) (hg1 : decide ((S : Int) < 21) = false) (hg2 : decide ((32768 : Int) < (S : Int)) = false) (hlt : (e : Int) - p < S) :
    Calls Yba.prog 7 #[.pointer (some ⟨rb, 0, none⟩), .int .i64 p] w fun e' w' => e' = .returned (.tuple #[.int .i64 0, .int .i64 S]) ∧ Below w.heap.size w w' := by
  have hsl := slice_from bb n cap (p + 2) (by omega) (by omega) ((p : Int) + 2) (by omega)
  have hw1 := wrap_in ((p : Int) + 2) (by omega) (by omega)
  have hw2 := wrap_in (c0 * 256 + c1) (by omega) (by omega)
  have hw3 : IntKind.i64.wrap (4 + (c0 * 256 + c1)) = (S : Int) := by rw [wrap_in _ (by omega) (by omega), hS.out]
  have hend2 : (w.alloc (.cells #[] 52)).cell? ⟨rb, 11, none⟩ = some (.int .i64 e) := (World.cell?_alloc_past _ _ _ hrb).trans hend
  go_enter Yba.func7, Yba.ntmps7
  go_wp2
  go_region_with (go_at_call 11; refine (be_any bb (p + 2) (n - (p + 2)) (cap - (p + 2)) c0 c1 _ (by omega) h0 h1 ?_ ?_ ?_).mono ?_; exact hb; exact hc0; exact hc1; rintro e w1 ⟨rfl, k1, rfl⟩)
  all_goals go_wp2
  all_goals go_ret2
  all_goals exact ⟨rfl, ((Below.refl _ w).alloc (Nat.le_refl _) _).trans ⟨rfl, rfl, rfl, Nat.le_refl _, fun _ _ => rfl⟩⟩

end Go.Proofs.Ybulkcqdg
