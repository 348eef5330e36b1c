/-
  THE WALK of 'zzs4580cmodel' (function 15): the whole table in one flat row.
-/
import Derived.Test.YbulkcpveSub
namespace Go.Proofs.Ybulkcpve
open Go.RowKit Go.Deep

/-- The flat table, rows of W places, when rows 0 .. k are whole and row k + 1 is filled up to place m. -/
def tab (s t : ByteArray) (W k m q : Nat) : Int :=
  if q / W ≤ k ∨ (q / W = k + 1 ∧ q % W ≤ m) then LS s t (q / W) (q % W) else 0

theorem at_div (W r c : Nat) (h : c < W) : (r * W + c) / W = r ∧ (r * W + c) % W = c := by
  have hW : 0 < W := by omega
  refine ⟨?_, ?_⟩
  · rw [Nat.mul_comm, Nat.mul_add_div hW, Nat.div_eq_of_lt h]; rfl
  · rw [Nat.mul_comm, Nat.mul_add_mod, Nat.mod_eq_of_lt h]

theorem tab_start (s t : ByteArray) (W q : Nat) : (0 : Int) = tab s t W 0 0 q := by
  unfold tab
  split
  · rename_i h
    rcases h with h | ⟨h, h2⟩
    · rw [Nat.le_zero.1 h]; rfl
    · have e : q % W = 0 := by omega
      rw [e, LS_at_zero]; rfl
  · rfl

theorem tab_above (s t : ByteArray) (W k m r c : Nat) (hc : c < W) (hr : r ≤ k) : tab s t W k m (r * W + c) = LS s t r c := by
  obtain ⟨h1, h2⟩ := at_div W r c hc
  unfold tab
  rw [h1, h2, if_pos (.inl hr)]

theorem tab_here (s t : ByteArray) (W k m c : Nat) (hc : c < W) (hm : c ≤ m) : tab s t W k m ((k + 1) * W + c) = LS s t (k + 1) c := by
  obtain ⟨h1, h2⟩ := at_div W (k + 1) c hc
  unfold tab
  rw [h1, h2, if_pos (.inr ⟨rfl, hm⟩)]

theorem tab_next (s t : ByteArray) (W k m q : Nat) (hm : W = m + 1) : tab s t W k m q = tab s t W (k + 1) 0 q := by
  have hl : q % W < W := Nat.mod_lt _ (by omega)
  unfold tab
  by_cases h : q / W ≤ k ∨ (q / W = k + 1 ∧ q % W ≤ m)
  · rw [if_pos h, if_pos (.inl (by omega))]
  · rw [if_neg h]
    by_cases h2 : q / W ≤ k + 1 ∨ (q / W = k + 1 + 1 ∧ q % W ≤ 0)
    · have e : q % W = 0 := by omega
      rw [if_pos h2, e, LS_at_zero]; rfl
    · rw [if_neg h2]

theorem tab_set (s t : ByteArray) (W k m q : Nat) (x : Int) (hm : m + 1 < W) (hx : x = LS s t (k + 1) (m + 1)) :
    (if q = (k + 1) * W + (m + 1) then x else tab s t W k m q) = tab s t W k (m + 1) q := by
  by_cases e : q = (k + 1) * W + (m + 1)
  · subst e
    rw [if_pos rfl, tab_here s t W k (m + 1) (m + 1) hm (Nat.le_refl _), hx]
  · rw [if_neg e]
    have hq : q / W = k + 1 → q % W ≠ m + 1 := by
      intro h1 h2
      have := Nat.div_add_mod q W
      rw [h1, h2, Nat.mul_comm] at this
      omega
    unfold tab
    by_cases h : q / W ≤ k ∨ (q / W = k + 1 ∧ q % W ≤ m)
    · rw [if_pos h, if_pos (by omega)]
    · rw [if_neg h, if_neg (by omega)]

theorem mul_nums (a b : Nat) : ((a : Int) + 1) * ((b : Int) + 1) = (((a + 1) * (b + 1) : Nat) : Int) := by simp

set_option maxHeartbeats 1000000 in
set_option maxRecDepth 20000 in
theorem tab_any (s t : ByteArray) (w : World) (hs : s.size ≤ 1024) (ht : t.size ≤ 1024) :
    Calls Yba.prog 15 #[.string s, .string t] w fun e w' => e = .returned (.int .i64 (LS s t s.size t.size)) ∧ Grown w w' := by
  have hNb : (s.size + 1) * (t.size + 1) ≤ 1025 * 1025 := Nat.mul_le_mul (by omega) (by omega)
  have hN : ((s.size : Int) + 1) * ((t.size : Int) + 1) = (((s.size + 1) * (t.size + 1) : Nat) : Int) := mul_nums _ _
  have HN : Hid (∀ k, k ≤ s.size → k * (t.size + 1) + (t.size + 1) ≤ (s.size + 1) * (t.size + 1)) := fun k hk => by
    have := Nat.mul_le_mul_right (t.size + 1) (show k + 1 ≤ s.size + 1 by omega)
    rw [Nat.succ_mul] at this
    exact this
  generalize (s.size + 1) * (t.size + 1) = N at *
  have hmk := run_make_row' (P := Yba.prog) 45 3 (.int .i64 0) 8 Yba.underlying45 Yba.info3 rfl .i64 .i64 N (by omega) (by omega)
  go_enter Yba.func15, Yba.ntmps15
  go_wp2
  clear hmk hN
  go_loopw [7] (fun i wr => ∃ k : Nat, k ≤ s.size ∧ i = .int .i64 (k + 1) ∧ IsRow wr w.heap.size N (tab s t (t.size + 1) k 0) ∧ Grown w wr) (fun i _ => s.size + 1 - (intOf i).toNat)
  case atStart => exact ⟨0, Nat.zero_le _, rfl, (IsRow.made w N 3).congr (fun q _ => tab_start _ _ _ _), (Grown.refl w).alloc _ _⟩
  case round =>
    obtain ⟨k, hk, rfl, hrow, hgr⟩ := hrel
    have hAN := HN.out k hk
    by_cases hlt : k < s.size
    · have hAN2 := HN.out (k + 1) hlt
      rw [Nat.succ_mul] at hAN2
      have hA : (k : Int) * ((t.size : Int) + 1) = ((k * (t.size + 1) : Nat) : Int) := by simp
      have hA1 : ((k : Int) + 1) * ((t.size : Int) + 1) = ((k * (t.size + 1) : Nat) : Int) + ((t.size : Int) + 1) := by
        rw [← hA, Int.add_mul, Int.one_mul]
      have HA : Hid ((k + 1) * (t.size + 1) = k * (t.size + 1) + (t.size + 1)) := Nat.succ_mul _ _
      obtain ⟨A, hAe⟩ : ∃ A, A = k * (t.size + 1) := ⟨_, rfl⟩
      have HE : Hid (A = k * (t.size + 1)) := hAe
      rw [← hAe] at hA hA1 hAN hAN2
      clear hAe
      go_wp2
      go_loopw [8] (fun j wr => ∃ m : Nat, m ≤ t.size ∧ j = .int .i64 (m + 1) ∧ IsRow wr w.heap.size N (tab s t (t.size + 1) k m) ∧ Grown w wr) (fun j _ => t.size + 1 - (intOf j).toNat)
      case atStart => exact ⟨0, Nat.zero_le _, rfl, hrow, hgr⟩
      case round =>
        clear hrow hgr
        obtain ⟨m, hm, rfl, hrow, hgr⟩ := hrel
        have HR : Hid (IsRow wr w.heap.size N (tab s t (t.size + 1) k m)) := hrow
        have HG : Hid (Grown w wr) := hgr
        clear hrow hgr
        by_cases hlt2 : m < t.size
        · have hb1 := LS_le s t k m
          have c00 : wr.cell? ⟨w.heap.size, A + m, none⟩ = some (.int .i64 (LS s t k m)) := by
            rw [HR.out.cell _ (by omega), HE.out, tab_above _ _ _ _ _ _ _ (by omega) (Nat.le_refl _)]
          have c01 : wr.cell? ⟨w.heap.size, A + (m + 1), none⟩ = some (.int .i64 (LS s t k (m + 1))) := by
            rw [HR.out.cell _ (by omega), HE.out, tab_above _ _ _ _ _ _ _ (by omega) (Nat.le_refl _)]
          have c10 : wr.cell? ⟨w.heap.size, A + (t.size + 1) + m, none⟩ = some (.int .i64 (LS s t (k + 1) m)) := by
            rw [HR.out.cell _ (by omega), HE.out, ← HA.out, tab_here _ _ _ _ _ _ (by omega) (Nat.le_refl _)]
          have c11 : wr.cell? ⟨w.heap.size, A + (t.size + 1) + (m + 1), none⟩ = some (.int .i64 (tab s t (t.size + 1) k m (A + (t.size + 1) + (m + 1)))) := HR.out.cell _ (by omega)
          have f11 : wr.frozen? ⟨w.heap.size, A + (t.size + 1) + (m + 1), none⟩ = false := HR.out.free _
          by_cases he : ((s[k].toNat : Int) == (t[m].toNat : Int)) = true
          · have HL : Hid (LS s t (k + 1) (m + 1) = LS s t k m + 1) := LS_eq s t k m hlt hlt2 he
            go_wp2
            go_quiet (fail)
            go_wp2
            go_roundw
            case rel => exact ⟨m + 1, by omega, by go_num, (HR.out.drewN _).set _ (by omega) _ |>.congr (fun q _ => by rw [HE.out, ← HA.out]; exact tab_set s t _ k m q _ (by omega) (by rw [HL.out]; omega)), (HG.out.drewN _).setCell (Nat.le_refl _) _⟩
            case measure => simp [intOf]; omega
          · have he' : ((s[k].toNat : Int) == (t[m].toNat : Int)) = false := by simpa using he
            have HL : Hid (LS s t (k + 1) (m + 1) = max (LS s t k (m + 1)) (LS s t (k + 1) m)) := LS_ne s t k m hlt hlt2 he'
            clear he
            rcases (show decide (LS s t k (m + 1) < LS s t (k + 1) m) = true ∨ decide (LS s t k (m + 1) < LS s t (k + 1) m) = false by cases decide (LS s t k (m + 1) < LS s t (k + 1) m) <;> simp) with hgt | hgt
            all_goals
              go_wp2
              go_quiet (fail)
              go_wp2
              go_roundw
              case rel => exact ⟨m + 1, by omega, by go_num, (HR.out.drewN _).set _ (by omega) _ |>.congr (fun q _ => by rw [HE.out, ← HA.out]; exact tab_set s t _ k m q _ (by omega) (by rw [HL.out]; simp at hgt; omega)), (HG.out.drewN _).setCell (Nat.le_refl _) _⟩
              case measure => simp [intOf]; omega
        · clear hA hA1 hAN hAN2
          have e : m = t.size := by omega
          subst e
          go_wp2
          go_roundw
          case rel => exact ⟨k + 1, by omega, by go_num, HR.out.congr (fun q _ => tab_next _ _ _ _ _ _ rfl), HG.out⟩
          case measure => simp [intOf]; omega
    · have e : k = s.size := by omega
      subst e
      have hA : (s.size : Int) * ((t.size : Int) + 1) = ((s.size * (t.size + 1) : Nat) : Int) := by simp
      obtain ⟨A, hAe⟩ : ∃ A, A = s.size * (t.size + 1) := ⟨_, rfl⟩
      rw [← hAe] at hA hAN
      have cl : wr.cell? ⟨w.heap.size, A + t.size, none⟩ = some (.int .i64 (LS s t s.size t.size)) := by
        rw [hrow.cell _ (by omega), hAe, tab_above _ _ _ _ _ _ _ (by omega) (Nat.le_refl _)]
      have HG : Hid (Grown w wr) := hgr
      clear hAe hrow hgr
      go_wp2
      go_ret
      exact ⟨ret_int rfl, HG.out⟩
end Go.Proofs.Ybulkcpve
