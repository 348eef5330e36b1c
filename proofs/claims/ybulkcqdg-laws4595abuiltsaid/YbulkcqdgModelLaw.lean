/-
  THE WALK of 'LawS4595AModel' (function 3).
-/
import Derived.Test.YbulkcqdgBoth
import Derived.Laws.CopyOwn
namespace Go.Proofs.Ybulkcqdg
open Go.RowKit Go.Deep

theorem Yba.info5 : (Yba.prog.info? 5).map (fun i => (i.zero, i.size, i.bytes)) = some (some (.int .u8 0), 1, 1) := by kernel_rfl
theorem Yba.size5 : (Yba.prog.info? 5).map (·.size) = some 1 := by kernel_rfl

theorem add_block (a : Addr) (j : Nat) : (a.add j).block = a.block := by
  unfold Addr.add
  split <;> rfl

/-- 'buf := make([]byte, n); copy(buf, data)'. -/
theorem copy_run (a : Option Addr) (n cap : Nat) (z : List Int) (w : World) (hz : z.length = n) (hnone : a = none → n = 0)
    (hcell : ∀ ad, a = some ad → ∀ j v, (z.map (Value.int .u8))[j]? = some v → ad.block < w.heap.size ∧ w.cell? (ad.add j) = some v) :
    ∃ w1, (Builtin.copy_ #[22, 22] 3 #[.slice (some ⟨w.heap.size, 0, none⟩) n n, .slice a n cap]).run Yba.prog (w.alloc (.cells (madeCells #[Value.int .u8 0] n) 5)) = .ok (.int .i64 n) w1 ∧
      (∀ j, j < n → w1.cell? ⟨w.heap.size, j, none⟩ = some (.int .u8 (z.getD j 0))) ∧ Below w.heap.size w w1 ∧ w1.heap.size = w.heap.size + 1 := by
  have hb0 := (Below.refl w.heap.size w).alloc (Nat.le_refl _) (.cells (madeCells #[Value.int .u8 0] n) 5)
  by_cases h0 : n = 0
  · subst h0
    exact ⟨_, run_copy_none (P := Yba.prog) _ 22 22 3 5 _ _ 0 0 0 cap Yba.underlying22 Yba.size5 rfl, fun j hj => by omega, hb0, by simp⟩
  · cases ha : a with
    | none => exact absurd (hnone ha) h0
    | some ad =>
      have hlen : (z.map (Value.int .u8)).length = n := by simpa using hz
      have hcs : (madeCells #[Value.int .u8 0] n).size = n := by simp [madeCells]
      have hr := run_copy_row (P := Yba.prog) (w.alloc (.cells (madeCells #[Value.int .u8 0] n) 5)) 22 22 3 5 w.heap.size 0 n n ad n cap (madeCells #[Value.int .u8 0] n) 5 (z.map (Value.int .u8)) Yba.underlying22 Yba.size5 (heap_alloc_new _ _) (by rw [hlen]; exact (Nat.min_self n).symm)
        (fun j v hj => (hb0.cell (by rw [add_block]; exact (hcell ad ha j v hj).1)).trans (hcell ad ha j v hj).2) (by rw [hlen, hcs]; omega) (ints_oneCell _ _)
      rw [hlen] at hr
      refine ⟨_, hr, fun j hj => ?_, below_setRow hb0 (Nat.le_refl _) _, by simp [World.setRow]⟩
      have hh := setRow_heap (w.alloc (.cells (madeCells #[Value.int .u8 0] n) 5)) w.heap.size (madeCells #[Value.int .u8 0] n) ((madeCells #[Value.int .u8 0] n).toList.take 0 ++ z.map (Value.int .u8) ++ (madeCells #[Value.int .u8 0] n).toList.drop (0 + n)).toArray 5 (0, 0) (heap_alloc_new _ _)
      simp only [World.cell?, hh]
      simp [List.getElem?_append, hz, hj]

set_option maxHeartbeats 2000000 in
theorem model_law (a : Option Addr) (n cap : Nat) (z : List Int) (a1 a2 : Int) (w : World) (h1 : 0 ≤ a1 ∧ a1 ≤ 65535) (h2 : 0 ≤ a2 ∧ a2 ≤ 65535) (hn : n ≤ 65536) (hz : z.length = n)
    (hnone : a = none → n = 0) (hcell : ∀ ad, a = some ad → ∀ j v, (z.map (Value.int .u8))[j]? = some v → ad.block < w.heap.size ∧ w.cell? (ad.add j) = some v)
    (hzb : ∀ q, 0 ≤ z.getD q 0 ∧ z.getD q 0 ≤ 255) :
    Calls Yba.prog 3 #[.slice a n cap, .int .u16 a1, .int .u16 a2] w fun e w' => e = .returned (.bool true) ∧ Below w.heap.size w w' := by
  have g0 : decide ((65536 : Int) < (n : Int)) = false := decide_eq_false (by omega)
  obtain ⟨E, hE, hEn⟩ : ∃ E : Nat, a1 % ((n : Int) + 1) = (E : Int) ∧ E ≤ n := ⟨(a1 % ((n : Int) + 1)).toNat, by
    have := Int.emod_nonneg a1 (show ((n : Int) + 1) ≠ 0 by omega); omega, by
    have := Int.emod_lt_of_pos a1 (show 0 < ((n : Int) + 1) by omega); omega⟩
  obtain ⟨p, hp, hpE⟩ : ∃ p : Nat, a2 % ((E : Int) + 1) = (p : Int) ∧ p ≤ E := ⟨(a2 % ((E : Int) + 1)).toNat, by
    have := Int.emod_nonneg a2 (show ((E : Int) + 1) ≠ 0 by omega); omega, by
    have := Int.emod_lt_of_pos a2 (show 0 < ((E : Int) + 1) by omega); omega⟩
  have hmk := run_make_row' (P := Yba.prog) 22 5 (.int .u8 0) 1 Yba.underlying22 Yba.info5 rfl .i64 .i64 n (by omega) (by omega)
  obtain ⟨w1, hcp, hin, hb1, hs1⟩ := copy_run a n cap z w hz hnone hcell
  have HI : Hid _ := hin
  have HB1 : Hid _ := hb1
  have HC : Hid _ := hcell
  have HN : Hid _ := hnone
  have HZ : Hid _ := hzb
  clear hin hb1 hcell hnone hzb
  go_enter Yba.func3, Yba.ntmps3
  go_wp2_with fail
  rw [hE, hp]
  clear hmk hcp
  refine (frame_all (w.heap.size + 1) w.heap.size n n E p z _ hpE hEn (by omega) ?_ ?_ ?_ (Nat.le_refl _) ?_ ?_ HZ.out).mono ?_
  · simp; omega
  · rw [World.cell?_alloc_at _ _ _ _ hs1.symm]; rfl
  · rw [World.cell?_alloc_at _ _ _ _ hs1.symm]; rfl
  · simp; omega
  · intro q hq
    rw [World.cell?_alloc_past _ _ _ (by omega)]
    exact HI.out q hq
  rintro e w3 ⟨rfl, hb3⟩
  have hs3 := hb3.size
  simp only [World.size_alloc, hs1] at hb3 hs3
  have b3 : Below w.heap.size w w3 := (HB1.out.alloc HB1.out.size _).trans (hb3.mono (by omega))
  have HIn : Hid (∀ q, q < n → w3.cell? ⟨w.heap.size, q, none⟩ = some (.int .u8 (z.getD q 0))) := fun q hq =>
    (hb3.cell (show w.heap.size < w.heap.size + 1 + 1 by omega)).trans ((World.cell?_alloc_past _ _ _ (by omega)).trans (HI.out q hq))
  have HD : Hid (0 < n → ∃ b off, a = some ⟨b, off, none⟩ ∧ ∀ q, q < n → w3.cell? ⟨b, off + q, none⟩ = some (.int .u8 (z.getD q 0))) := by
    intro hpos
    have hall : ∀ ad, a = some ad → ∀ q, q < n → w3.cell? (ad.add q) = some (.int .u8 (z.getD q 0)) := fun ad h q hq => by
      have hu : (z.map (Value.int .u8))[q]? = some (.int .u8 (z.getD q 0)) := by simp [List.getElem?_eq_getElem (show q < z.length by omega)]
      exact (b3.cell (by rw [add_block]; exact (HC.out ad h q _ hu).1)).trans (HC.out ad h q _ hu).2
    cases ha : a with
    | none => have := HN.out ha; omega
    | some ad =>
      obtain ⟨b, off, spot⟩ := ad
      have hspot : spot = none := by simpa [Addr.add] using World.cell?_spot (hall _ ha 0 hpos)
      subst hspot
      refine ⟨b, off, rfl, fun q hq => ?_⟩
      have := hall _ ha q hq
      rwa [WideShapes.add_plain] at this
  have HB3 : Hid _ := b3
  clear HI HB1 HC HN hb3 b3
  have M := model_all a n cap E p z w3 hpE hEn (by omega) HD.out HZ.out
  generalize (frame z E p).1 = st at M ⊢
  generalize (frame z E p).2 = sz at M ⊢
  have HM : Hid _ := M
  clear M hE hp
  go_wp2_with fail
  have M2 : Calls Yba.prog 8 #[.slice a n cap, .int .i64 E, .int .i64 p] w3 fun e' w' => e' = .returned (.tuple #[.int .i64 st, .int .i64 sz]) ∧ ∃ k, w' = w3.drewN k := HM.out
  refine M2.mono ?_
  clear M2
  rintro e w4 ⟨rfl, k4, rfl⟩
  clear HM
  go_wp2_with fail
  go_loopw [16] (fun i wr => ∃ k q : Nat, k ≤ n ∧ i = .int .i64 k ∧ wr = w3.drewN q) (fun i _ => n - (intOf i).toNat)
  case atStart => exact ⟨0, _, Nat.zero_le _, rfl, rfl⟩
  case round =>
    obtain ⟨k, q, hk, rfl, rfl⟩ := hrel
    by_cases hlt : k < n
    · obtain ⟨b, off, ha, hd⟩ := HD.out (by omega)
      subst ha
      have t1 := HIn.out k hlt
      have t2 := hd k hlt
      clear hd
      generalize z.getD k 0 = y at t1 t2
      have i1 : (k : Int) < (n : Int) := by omega
      go_wp2_with fail
      go_quiet (fail)
      go_wp2_with fail
      go_roundw
      case rel => exact ⟨k + 1, _, by omega, by go_num, rfl⟩
      case measure => simp [intOf]; omega
    · go_wp2
      go_ret
      exact ⟨rfl, HB3.out.trans ⟨rfl, rfl, rfl, Nat.le_refl _, fun _ _ => rfl⟩⟩
end Go.Proofs.Ybulkcqdg
