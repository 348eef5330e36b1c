/-
  THE WALK of 'zzs4595amodel' (function 8).
-/
import Derived.Test.YbulkcqdgBe
namespace Go.Proofs.Ybulkcqdg
open Go.RowKit Go.Deep

theorem or_i64 (c0 c1 : Int) (h0 : 0 ≤ c0 ∧ c0 ≤ 255) (h1 : 0 ≤ c1 ∧ c1 ≤ 255) : bits .or .i64 (c0 * 256) c1 = c0 * 256 + c1 :=
  bits_join .i64 63 (by decide) (fun n hn hm => by rw [IntKind.wrap_i64]; omega) 8 (c0 * 256) c1 (by omega) (by omega) (by omega) (by omega) (by omega) (by omega)

theorem model_short (a : Option Addr) (n cap e p : Nat) (w : World) (hpe : p ≤ e) (_he : e ≤ 100000) (hs : (e : Int) - p < 4) :
    Calls Yba.prog 8 #[.slice a n cap, .int .i64 e, .int .i64 p] w fun e' w' => e' = .returned (.tuple #[.int .i64 0, .int .i64 4]) ∧ w' = w := by
  go_enter Yba.func8, Yba.ntmps8
  go_wp2
  go_ret2
  exact ⟨rfl, rfl⟩

set_option maxHeartbeats 1000000 in
theorem model_bad (b off n cap e p S : Nat) (c0 c1 : Int) (w : World) (_hpe : p ≤ e) (hen : e ≤ n) (hn : n ≤ 100000) (h0 : 0 ≤ c0 ∧ c0 ≤ 255) (h1 : 0 ≤ c1 ∧ c1 ≤ 255)
    (hc0 : w.cell? ⟨b, off + (p + 2), none⟩ = some (.int .u8 c0)) (hc1 : w.cell? ⟨b, off + (p + 3), none⟩ = some (.int .u8 c1)) (hS : Hid ((S : Int) = 4 + (c0 * 256 + c1)))
    (hs : 4 ≤ (e : Int) - p) (hbad : decide ((S : Int) < 21) = true ∨ decide ((S : Int) < 21) = false ∧ decide ((32768 : Int) < (S : Int)) = true) :
    Calls Yba.prog 8 #[.slice (some ⟨b, off, none⟩) n cap, .int .i64 e, .int .i64 p] w fun e' w' => e' = .returned (.tuple #[.int .i64 2, .int .i64 0]) ∧ ∃ k, w' = w.drewN k := by
  have hor := or_i64 c0 c1 h0 h1
  have i1 : (p : Int) + 2 < (n : Int) := by omega
  have i2 : (p : Int) + 3 < (n : Int) := by omega
  have hsum : 4 + (c0 * 256 + c1) = (S : Int) := hS.out.symm
  rcases hbad with hbad | ⟨hbad, hbad2⟩
  all_goals
    go_enter Yba.func8, Yba.ntmps8
    go_wp2
    go_quiet (fail)
    go_wp2
    go_ret2
    exact ⟨rfl, _, rfl⟩

set_option maxHeartbeats 1000000 in
theorem model_coming (b off n cap e p S : Nat) (c0 c1 : Int) (w : World) (_hpe : p ≤ e) (hen : e ≤ n) (hn : n ≤ 100000) (h0 : 0 ≤ c0 ∧ c0 ≤ 255) (h1 : 0 ≤ c1 ∧ c1 ≤ 255)
    (hc0 : w.cell? ⟨b, off + (p + 2), none⟩ = some (.int .u8 c0)) (hc1 : w.cell? ⟨b, off + (p + 3), none⟩ = some (.int .u8 c1)) (hS : Hid ((S : Int) = 4 + (c0 * 256 + c1)))
    (hs : 4 ≤ (e : Int) - p) (hg1 : decide ((S : Int) < 21) = false) (hg2 : decide ((32768 : Int) < (S : Int)) = false) (hlt : (e : Int) - p < S) :
    Calls Yba.prog 8 #[.slice (some ⟨b, off, none⟩) n cap, .int .i64 e, .int .i64 p] w fun e' w' => e' = .returned (.tuple #[.int .i64 0, .int .i64 S]) ∧ ∃ k, w' = w.drewN k := by
  have hor := or_i64 c0 c1 h0 h1
  have i1 : (p : Int) + 2 < (n : Int) := by omega
  have i2 : (p : Int) + 3 < (n : Int) := by omega
  have hsum : 4 + (c0 * 256 + c1) = (S : Int) := hS.out.symm
  go_enter Yba.func8, Yba.ntmps8
  go_wp2
  go_quiet (fail)
  go_wp2
  go_ret2
  exact ⟨rfl, _, rfl⟩

set_option maxHeartbeats 1000000 in
theorem model_tail (b off n cap e p S : Nat) (c0 c1 c2 c3 : Int) (w : World) (_hpe : p ≤ e) (hen : e ≤ n) (hn : n ≤ 100000) (h0 : 0 ≤ c0 ∧ c0 ≤ 255) (h1 : 0 ≤ c1 ∧ c1 ≤ 255)
    (hc0 : w.cell? ⟨b, off + (p + 2), none⟩ = some (.int .u8 c0)) (hc1 : w.cell? ⟨b, off + (p + 3), none⟩ = some (.int .u8 c1)) (hc2 : w.cell? ⟨b, off + (p + S - 2), none⟩ = some (.int .u8 c2)) (hc3 : w.cell? ⟨b, off + (p + S - 1), none⟩ = some (.int .u8 c3))
    (hS : Hid ((S : Int) = 4 + (c0 * 256 + c1)))
    (hs : 4 ≤ (e : Int) - p) (hg1 : decide ((S : Int) < 21) = false) (hg2 : decide ((32768 : Int) < (S : Int)) = false) (hge : (S : Int) ≤ (e : Int) - p) (hS21 : 21 ≤ S) (ST : Int) (hST : Hid (ST = if c2 = 252 ∧ c3 = 238 then 1 else 3)) :
    Calls Yba.prog 8 #[.slice (some ⟨b, off, none⟩) n cap, .int .i64 e, .int .i64 p] w fun e' w' => e' = .returned (.tuple #[.int .i64 ST, .int .i64 S]) ∧ ∃ k, w' = w.drewN k := by
  have hor := or_i64 c0 c1 h0 h1
  have i1 : (p : Int) + 2 < (n : Int) := by omega
  have i2 : (p : Int) + 3 < (n : Int) := by omega
  have hsum : 4 + (c0 * 256 + c1) = (S : Int) := hS.out.symm
  rcases (show (c2 != 252) = true ∨ (c2 != 252) = false by cases (c2 != 252) <;> simp) with t2 | t2
  · have HT3 : Hid (ST = 3) := by
      rw [hST.out, if_neg (by rw [bne_iff_ne] at t2; omega)]; rfl
    go_enter Yba.func8, Yba.ntmps8
    go_wp2
    go_quiet (fail)
    go_wp2
    go_ret2
    exact ⟨(congrArg (fun x : Int => Ending.returned (.tuple #[.int .i64 x, .int .i64 (S : Int)])) HT3.out).symm, _, rfl⟩
  · rcases (show (c3 != 238) = true ∨ (c3 != 238) = false by cases (c3 != 238) <;> simp) with t3 | t3
    · have HT3 : Hid (ST = 3) := by
        rw [hST.out, if_neg (by rw [bne_iff_ne] at t3; omega)]; rfl
      go_enter Yba.func8, Yba.ntmps8
      go_wp2
      go_quiet (fail)
      go_wp2
      go_ret2
      exact ⟨(congrArg (fun x : Int => Ending.returned (.tuple #[.int .i64 x, .int .i64 (S : Int)])) HT3.out).symm, _, rfl⟩
    · have HT1 : Hid (ST = 1) := by
        rw [hST.out, if_pos (by rw [bne_eq_false_iff_eq] at t2 t3; omega)]; rfl
      go_enter Yba.func8, Yba.ntmps8
      go_wp2
      go_quiet (fail)
      go_wp2
      go_ret2
      exact ⟨(congrArg (fun x : Int => Ending.returned (.tuple #[.int .i64 x, .int .i64 (S : Int)])) HT1.out).symm, _, rfl⟩
end Go.Proofs.Ybulkcqdg
