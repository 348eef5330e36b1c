/-
  'frameAt' AND 'zzs4595amodel' ANSWER ONE FUNCTION: 'frame'.
-/
import Derived.Test.YbulkcqdgTail
import Derived.Test.YbulkcqdgModel
namespace Go.Proofs.Ybulkcqdg
open Go.RowKit Go.Deep

theorem frame_ways (z : List Int) (e p : Nat) (P : Int → Int → Prop) (S : Nat) (hS : (S : Int) = 4 + (z.getD (p + 2) 0 * 256 + z.getD (p + 3) 0))
    (h1 : (e : Int) - p < 4 → P 0 4)
    (h2 : 4 ≤ (e : Int) - p → (decide ((S : Int) < 21) = true ∨ decide ((S : Int) < 21) = false ∧ decide ((32768 : Int) < (S : Int)) = true) → P 2 0)
    (h3 : 4 ≤ (e : Int) - p → decide ((S : Int) < 21) = false → decide ((32768 : Int) < (S : Int)) = false → (e : Int) - p < S → P 0 S)
    (h4 : 4 ≤ (e : Int) - p → decide ((S : Int) < 21) = false → decide ((32768 : Int) < (S : Int)) = false → (S : Int) ≤ (e : Int) - p → 21 ≤ S → P (if z.getD (p + S - 2) 0 = 252 ∧ z.getD (p + S - 1) 0 = 238 then 1 else 3) S) :
    P (frame z e p).1 (frame z e p).2 := by
  have hf : fsize z p = (S : Int) := by unfold fsize; omega
  unfold frame
  rw [hf, Int.toNat_natCast]
  by_cases c1 : (e : Int) - p < 4
  · rw [if_pos c1]; exact h1 c1
  · rw [if_neg c1]
    by_cases c2 : (S : Int) < 21 ∨ 32768 < (S : Int)
    · rw [if_pos c2]
      refine h2 (by omega) ?_
      by_cases c3 : (S : Int) < 21
      · exact .inl (decide_eq_true c3)
      · exact .inr ⟨decide_eq_false c3, decide_eq_true (by omega)⟩
    · rw [if_neg c2]
      have g1 : decide ((S : Int) < 21) = false := decide_eq_false (by omega)
      have g2 : decide ((32768 : Int) < (S : Int)) = false := decide_eq_false (by omega)
      by_cases c4 : (e : Int) - p < (S : Int)
      · rw [if_pos c4]; exact h3 (by omega) g1 g2 c4
      · rw [if_neg c4]
        have := h4 (by omega) g1 g2 (by omega) (by omega)
        by_cases c5 : z.getD (p + S - 2) 0 = 252 ∧ z.getD (p + S - 1) 0 = 238
        · rw [if_pos c5] at this ⊢; exact this
        · rw [if_neg c5] at this ⊢; exact this

theorem frame_all (rb bb n cap e p : Nat) (z : List Int) (w : World) (hpe : p ≤ e) (hen : e ≤ n) (hn : n ≤ 100000) (hrb : rb < w.heap.size) (hend : w.cell? ⟨rb, 11, none⟩ = some (.int .i64 e))
    (hbuf : w.cell? ⟨rb, 7, none⟩ = some (.slice (some ⟨bb, 0, none⟩) n cap)) (hcap : n ≤ cap) (hb : bb < w.heap.size)
    (hz : ∀ q, q < n → w.cell? ⟨bb, q, none⟩ = some (.int .u8 (z.getD q 0))) (hzb : ∀ q, 0 ≤ z.getD q 0 ∧ z.getD q 0 ≤ 255) :
    Calls Yba.prog 7 #[.pointer (some ⟨rb, 0, none⟩), .int .i64 p] w fun e' w' => e' = .returned (.tuple #[.int .i64 (frame z e p).1, .int .i64 (frame z e p).2]) ∧ Below w.heap.size w w' := by
  have b2 := hzb (p + 2)
  have b3 := hzb (p + 3)
  obtain ⟨S, hS⟩ : ∃ S : Nat, (S : Int) = 4 + (z.getD (p + 2) 0 * 256 + z.getD (p + 3) 0) := ⟨(4 + (z.getD (p + 2) 0 * 256 + z.getD (p + 3) 0)).toNat, by omega⟩
  refine frame_ways z e p (fun x y => Calls Yba.prog 7 #[.pointer (some ⟨rb, 0, none⟩), .int .i64 p] w fun e' w' => e' = .returned (.tuple #[.int .i64 x, .int .i64 y]) ∧ Below w.heap.size w w') S hS ?_ ?_ ?_ ?_
  · intro h
    refine (frame_short rb e p w hpe (by omega) hend h).mono fun e' w' hh => ⟨hh.1, ?_⟩
    rw [hh.2]
    exact Below.refl _ _
  · intro h hbad
    exact frame_bad rb bb n cap e p S _ _ w hpe hen hn hend hbuf hcap hb b2 b3 (hz _ (by omega)) (hz _ (by omega)) hS h hbad
  · intro h g1 g2 hlt
    exact frame_coming rb bb n cap e p S _ _ w hpe hen hn hrb hend hbuf hcap hb b2 b3 (hz _ (by omega)) (hz _ (by omega)) hS h g1 g2 hlt
  · intro h g1 g2 hge h21
    have h3 : w.cell? ⟨bb, p + S - 2 + 1, none⟩ = some (.int .u8 (z.getD (p + S - 1) 0)) := by
      rw [show p + S - 2 + 1 = p + S - 1 by omega]
      exact hz _ (by omega)
    exact frame_tail rb bb n cap e p S _ _ _ _ w hpe hen hn hrb hend hbuf hcap hb b2 b3 (hzb _) (hzb _) (hz _ (by omega)) (hz _ (by omega)) (hz _ (by omega)) h3 hS h g1 g2 hge h21 _ rfl

theorem model_all (a : Option Addr) (n cap e p : Nat) (z : List Int) (w : World) (hpe : p ≤ e) (hen : e ≤ n) (hn : n ≤ 100000) (hnone : 0 < n → ∃ b off, a = some ⟨b, off, none⟩ ∧ ∀ q, q < n → w.cell? ⟨b, off + q, none⟩ = some (.int .u8 (z.getD q 0)))
    (hzb : ∀ q, 0 ≤ z.getD q 0 ∧ z.getD q 0 ≤ 255) :
    Calls Yba.prog 8 #[.slice a n cap, .int .i64 e, .int .i64 p] w fun e' w' => e' = .returned (.tuple #[.int .i64 (frame z e p).1, .int .i64 (frame z e p).2]) ∧ ∃ k, w' = w.drewN k := by
  have b2 := hzb (p + 2)
  have b3 := hzb (p + 3)
  obtain ⟨S, hS⟩ : ∃ S : Nat, (S : Int) = 4 + (z.getD (p + 2) 0 * 256 + z.getD (p + 3) 0) := ⟨(4 + (z.getD (p + 2) 0 * 256 + z.getD (p + 3) 0)).toNat, by omega⟩
  refine frame_ways z e p (fun x y => Calls Yba.prog 8 #[.slice a n cap, .int .i64 e, .int .i64 p] w fun e' w' => e' = .returned (.tuple #[.int .i64 x, .int .i64 y]) ∧ ∃ k, w' = w.drewN k) S hS ?_ ?_ ?_ ?_
  · intro h
    refine (model_short a n cap e p w hpe (by omega) h).mono fun e' w' hh => ⟨hh.1, 0, ?_⟩
    rw [hh.2]
    rfl
  · intro h hbad
    obtain ⟨b, off, rfl, hz⟩ := hnone (by omega)
    exact model_bad b off n cap e p S _ _ w hpe hen hn b2 b3 (hz _ (by omega)) (hz _ (by omega)) hS h hbad
  · intro h g1 g2 hlt
    obtain ⟨b, off, rfl, hz⟩ := hnone (by omega)
    exact model_coming b off n cap e p S _ _ w hpe hen hn b2 b3 (hz _ (by omega)) (hz _ (by omega)) hS h g1 g2 hlt
  · intro h g1 g2 hge h21
    obtain ⟨b, off, rfl, hz⟩ := hnone (by omega)
    exact model_tail b off n cap e p S _ _ _ _ w hpe hen hn b2 b3 (hz _ (by omega)) (hz _ (by omega)) (hz _ (by omega)) (hz _ (by omega)) hS h g1 g2 hge h21 _ rfl
end Go.Proofs.Ybulkcqdg
