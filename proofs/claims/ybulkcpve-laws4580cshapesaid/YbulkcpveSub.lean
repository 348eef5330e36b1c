/-
  THE WALK of 'commonSubsequence' (function 14): it returns the last number of the table.
-/
import Derived.Test.YbulkcpveRows
import Derived.Test.YbulkcpveRowW
namespace Go.Proofs.Ybulkcpve
open Go.RowKit Go.Deep

theorem Yba.info3 : (Yba.prog.info? 3).map (fun i => (i.zero, i.size, i.bytes)) = some (some (.int .i64 0), 1, 8) := by kernel_rfl

/-- The byte at place i, as a number. -/
def ch (s : ByteArray) (i : Nat) : Nat := if h : i < s.size then s[i].toNat else 0
theorem ch_at (s : ByteArray) (i : Nat) (h : i < s.size) : ch s i = s[i].toNat := by simp [ch, h]

/-- The table of s and t. -/
def LS (s t : ByteArray) (i j : Nat) : Nat := Lcs.L (ch s) (ch t) i j

/-- The row in the middle of a round: the first j + 1 places are the new row's. -/
def mid (s t : ByteArray) (i j q : Nat) : Int := if q ≤ j then (LS s t (i + 1) q : Int) else (LS s t i q : Int)

theorem ret_int {k : IntKind} {a b : Int} (h : a = b) : Ending.returned (.int k a) = .returned (.int k b) := by rw [h]
theorem LS_at_zero (s t : ByteArray) (i : Nat) : LS s t i 0 = 0 := Lcs.L_at_zero _ _ _
theorem LS_le (s t : ByteArray) (i j : Nat) : (LS s t i j : Int) ≤ i ∧ (LS s t i j : Int) ≤ j := by have := Lcs.L_le (ch s) (ch t) i j; unfold LS; omega
theorem LS_eq (s t : ByteArray) (i j : Nat) (hi : i < s.size) (hj : j < t.size) (h : ((s[i].toNat : Int) == (t[j].toNat : Int)) = true) : LS s t (i + 1) (j + 1) = LS s t i j + 1 := by
  refine Lcs.L_eq _ _ i j ?_
  rw [ch_at s i hi, ch_at t j hj]
  have := beq_iff_eq.1 h
  omega
theorem LS_ne (s t : ByteArray) (i j : Nat) (hi : i < s.size) (hj : j < t.size) (h : ((s[i].toNat : Int) == (t[j].toNat : Int)) = false) : LS s t (i + 1) (j + 1) = max (LS s t i (j + 1)) (LS s t (i + 1) j) := by
  refine Lcs.L_ne _ _ i j ?_
  rw [ch_at s i hi, ch_at t j hj]
  have := beq_eq_false_iff_ne.1 h
  omega
theorem mid_zero (s t : ByteArray) (i q : Nat) : mid s t i 0 q = LS s t i q := by
  unfold mid
  split
  · have e : q = 0 := by omega
    subst e
    rw [LS_at_zero, LS_at_zero]
  · rfl
theorem mid_new (s t : ByteArray) (i j : Nat) : mid s t i j (j + 1) = LS s t i (j + 1) := by unfold mid; rw [if_neg (by omega)]
theorem mid_old (s t : ByteArray) (i j : Nat) : mid s t i j j = LS s t (i + 1) j := by unfold mid; rw [if_pos (by omega)]
theorem mid_full (s t : ByteArray) (i n q : Nat) (h : q < n + 1) : mid s t i n q = LS s t (i + 1) q := by unfold mid; rw [if_pos (by omega)]
theorem mid_set (s t : ByteArray) (i j q : Nat) (x : Int) (h : x = LS s t (i + 1) (j + 1)) : (if q = j + 1 then x else mid s t i j q) = mid s t i (j + 1) q := by
  unfold mid
  by_cases e : q = j + 1
  · subst e; rw [if_pos rfl, if_pos (by omega), h]
  · rw [if_neg e]
    by_cases l : q ≤ j
    · rw [if_pos l, if_pos (by omega)]
    · rw [if_neg l, if_neg (by omega)]

set_option maxHeartbeats 1000000 in
theorem sub_any (s t : ByteArray) (w : World) (hs : s.size ≤ 1000000) (ht : t.size ≤ 1000000) :
    Calls Yba.prog 14 #[.string s, .string t] w fun e w' => e = .returned (.int .i64 (LS s t s.size t.size)) ∧ Grown w w' := by
  have hmk := run_make_row' (P := Yba.prog) 45 3 (.int .i64 0) 8 Yba.underlying45 Yba.info3 rfl .i64 .i64 (t.size + 1) (by omega) (by omega)
  rw [show ((t.size + 1 : Nat) : Int) = (t.size : Int) + 1 from by omega] at hmk
  go_enter Yba.func14, Yba.ntmps14
  go_wp2
  go_loopw [16] (fun i wr => ∃ k : Nat, k ≤ s.size ∧ i = .int .i64 k ∧ IsRow wr w.heap.size (t.size + 1) (fun q => LS s t k q) ∧ Grown w wr) (fun i _ => s.size - (intOf i).toNat)
  case atStart => exact ⟨0, Nat.zero_le _, rfl, (IsRow.made w (t.size + 1) 3).congr (fun q _ => rfl), (Grown.refl w).alloc _ _⟩
  case round =>
    obtain ⟨k, hk, rfl, hrow, hgr⟩ := hrel
    by_cases hlt : k < s.size
    · go_wp2
      go_loopw [7, 21] (fun d j w1 => ∃ m : Nat, m ≤ t.size ∧ j = .int .i64 m ∧ d = .int .i64 (LS s t k m) ∧ IsRow w1 w.heap.size (t.size + 1) (mid s t k m) ∧ Grown w w1) (fun _ j _ => t.size - (intOf j).toNat)
      case atStart => exact ⟨0, Nat.zero_le _, rfl, by rw [LS_at_zero]; rfl, hrow.congr (fun q _ => (mid_zero s t k q).symm), hgr⟩
      case round =>
        clear hrow hgr hmk
        obtain ⟨m, hm, rfl, rfl, hrow, hgr⟩ := hrel
        by_cases hlt2 : m < t.size
        · have hb1 := LS_le s t k m
          have hb2 := LS_le s t k (m + 1)
          have hb3 := LS_le s t (k + 1) m
          have c1 : wr.cell? ⟨w.heap.size, m + 1, none⟩ = some (.int .i64 (LS s t k (m + 1))) := by rw [hrow.cell (m + 1) (by omega), mid_new]
          have c0 : wr.cell? ⟨w.heap.size, m, none⟩ = some (.int .i64 (LS s t (k + 1) m)) := by rw [hrow.cell m (by omega), mid_old]
          have f1 := hrow.free (m + 1)
          have HR : Hid (IsRow wr w.heap.size (t.size + 1) (mid s t k m)) := hrow
          have HG : Hid (Grown w wr) := hgr
          clear hrow hgr
          by_cases he : ((s[k].toNat : Int) == (t[m].toNat : Int)) = true
          · have HL : Hid (LS s t (k + 1) (m + 1) = LS s t k m + 1) := LS_eq s t k m hlt hlt2 he
            go_wp2
            go_quiet (fail)
            go_wp2
            go_roundw
            case rel => exact ⟨m + 1, by omega, by go_num, rfl, (HR.out.drewN _).set _ (by omega) _ |>.congr (fun q _ => mid_set s t k m q _ (by rw [HL.out]; omega)), (HG.out.drewN _).setCell (Nat.le_refl _) _⟩
            case measure => simp [intOf]; omega
          · have he' : ((s[k].toNat : Int) == (t[m].toNat : Int)) = false := by simpa using he
            have HL : Hid (LS s t (k + 1) (m + 1) = max (LS s t k (m + 1)) (LS s t (k + 1) m)) := LS_ne s t k m hlt hlt2 he'
            clear he
            go_wp2
            go_quiet (fail)
            go_wp2
            go_region
            all_goals go_wp2
            all_goals
              go_roundw
              case rel => exact ⟨m + 1, by omega, by go_num, rfl, (HR.out.drewN _).set _ (by omega) _ |>.congr (fun q _ => mid_set s t k m q _ (by rw [HL.out]; split <;> omega)), (HG.out.drewN _).setCell (Nat.le_refl _) _⟩
              case measure => simp [intOf]; omega
        · have e : m = t.size := by omega
          subst e
          go_wp2
          go_roundw
          case rel => exact ⟨k + 1, by omega, by go_num, hrow.congr (fun q hq => mid_full s t k _ q hq), hgr⟩
          case measure => simp [intOf]; omega
    · clear hmk
      have e : k = s.size := by omega
      have c1 : wr.cell? ⟨w.heap.size, t.size, none⟩ = some (.int .i64 (LS s t k t.size)) := hrow.cell t.size (by omega)
      have HG : Hid (Grown w wr) := hgr
      have HE : Hid (k = s.size) := e
      clear hrow hgr e
      go_wp2
      go_ret
      exact ⟨ret_int (by rw [HE.out]), HG.out⟩
end Go.Proofs.Ybulkcpve
