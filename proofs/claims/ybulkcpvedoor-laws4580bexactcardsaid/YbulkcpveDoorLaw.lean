/-
  THE WALK of 'LawS4580BExact' (function 3).
-/
import Derived.Test.YbulkcpveDoorDec
import Derived.Laws.CopyOwn
namespace Go.Proofs.YbulkcpveDoor
open Go.RowKit Go.Sort Go.Deep

theorem nDigits_le (k : Nat) : ∀ u, u < 10 ^ (k + 1) → Lib.nDigits u ≤ k + 1 := by
  induction k with
  | zero => intro u h; rw [Lib.nDigits_small (by simpa using h)]; omega
  | succ k ih =>
    intro u h
    by_cases h10 : u < 10
    · rw [Lib.nDigits_small h10]; omega
    · rw [Lib.nDigits_big h10]
      have := ih (u / 10) (by rw [Nat.pow_succ] at h; omega)
      omega

theorem add_block (a : Addr) (j : Nat) : (a.add j).block = a.block := by
  unfold Addr.add
  split <;> rfl


/-- The bytes of a string as numbers. -/
def nums (s : ByteArray) : List Int := s.data.toList.map (fun b => (b.toNat : Int))
theorem nums_length (s : ByteArray) : (nums s).length = s.size := by
  unfold nums
  rw [List.length_map, Array.length_toList]
  rfl
theorem nums_take (s : ByteArray) (k : Nat) (h : k < s.size) : (nums s).take (k + 1) = (nums s).take k ++ [(s[k].toNat : Int)] := by
  rw [List.take_succ_eq_append_getElem (by rw [nums_length]; exact h)]
  simp [nums]
  rfl
/-- The decimal digits as numbers. -/
def digs (u : Nat) : List Int := (Lib.decDigits u).map (fun b => (b.toNat : Int))
theorem digs_cells (u : Nat) : (digs u).map (Value.int .u8) = Lib.byteCells (Lib.decDigits u) := by simp [digs, Lib.byteCells, Function.comp_def]
/-- What append puts behind dst, as numbers. -/
def tailI (u : Nat) (p1 p2 : ByteArray) : List Int := digs u ++ ([58] ++ (nums p1 ++ ([58] ++ nums p2)))
theorem tail_eq (u : Nat) (p1 p2 : ByteArray) : tail u p1 p2 = (tailI u p1 p2).map (Value.int .u8) := by
  simp [tail, tailI, digs, nums, Lib.byteCells, Lib.strCells, Function.comp_def]
theorem tailI_length (u : Nat) (p1 p2 : ByteArray) : (tailI u p1 p2).length = (Lib.decDigits u).length + 1 + p1.size + 1 + p2.size := by
  simp [tailI, digs, nums_length]
  omega

theorem Ybad.size5 : (Ybad.prog.info? 5).map (·.size) = some 1 := by kernel_rfl

theorem tab_below {w w' : World} (h : Below w.heap.size w w') (ht : Lib.TabIs Ybad.prog w powName .u64 Lib.pow10Tab) : Lib.TabIs Ybad.prog w' powName .u64 Lib.pow10Tab :=
  (Lib.tabBelow_of_tabIs ht) w' h

/-- 'in := make([]byte, len(dst)); copy(in, dst)'. -/
theorem copy_run (a : Option Addr) (n cap : Nat) (z : List Int) (w : World) (hz : z.length = n) (hnone : a = none → n = 0)
    (hcell : ∀ ad, a = some ad → ∀ j v, (z.map (Value.int .u8))[j]? = some v → ad.block < w.heap.size ∧ w.cell? (ad.add j) = some v) :
    ∃ w1, (Builtin.copy_ #[22, 22] 3 #[.slice (some ⟨w.heap.size, 0, none⟩) n n, .slice a n cap]).run Ybad.prog (w.alloc (.cells (madeCells #[Value.int .u8 0] n) 5)) = .ok (.int .i64 n) w1 ∧
      (∀ j, j < n → w1.cell? ⟨w.heap.size, j, none⟩ = some (.int .u8 (z.getD j 0))) ∧ Below w.heap.size w w1 ∧ w1.heap.size = w.heap.size + 1 := by
  have hb0 := (Below.refl w.heap.size w).alloc (Nat.le_refl _) (.cells (madeCells #[Value.int .u8 0] n) 5)
  by_cases h0 : n = 0
  · subst h0
    exact ⟨_, run_copy_none (P := Ybad.prog) _ 22 22 3 5 _ _ 0 0 0 cap Ybad.underlying22 Ybad.size5 rfl, fun j hj => by omega, hb0, by simp⟩
  · cases ha : a with
    | none => exact absurd (hnone ha) h0
    | some ad =>
      have hlen : (z.map (Value.int .u8)).length = n := by simpa using hz
      have hcs : (madeCells #[Value.int .u8 0] n).size = n := by simp [madeCells]
      have hr := run_copy_row (P := Ybad.prog) (w.alloc (.cells (madeCells #[Value.int .u8 0] n) 5)) 22 22 3 5 w.heap.size 0 n n ad n cap (madeCells #[Value.int .u8 0] n) 5 (z.map (Value.int .u8)) Ybad.underlying22 Ybad.size5 (heap_alloc_new _ _) (by rw [hlen]; exact (Nat.min_self n).symm)
        (fun j v hj => (hb0.cell (by rw [add_block]; exact (hcell ad ha j v hj).1)).trans (hcell ad ha j v hj).2) (by rw [hlen, hcs]; omega) (ints_oneCell _ _)
      rw [hlen] at hr
      refine ⟨_, hr, fun j hj => ?_, below_setRow hb0 (Nat.le_refl _) _, by simp [World.setRow]⟩
      have hh := setRow_heap (w.alloc (.cells (madeCells #[Value.int .u8 0] n) 5)) w.heap.size (madeCells #[Value.int .u8 0] n) ((madeCells #[Value.int .u8 0] n).toList.take 0 ++ z.map (Value.int .u8) ++ (madeCells #[Value.int .u8 0] n).toList.drop (0 + n)).toArray 5 (0, 0) (heap_alloc_new _ _)
      simp only [World.cell?, hh]
      simp [List.getElem?_append, hz, hj]

theorem ints_take (z : List Int) (k : Nat) (h : k < z.length) : z.take (k + 1) = z.take k ++ [z.getD k 0] := by
  rw [List.take_succ_eq_append_getElem h]
  simp [h]

/-- Numbers as cells: a name that the walk leaves standing. -/
def bs (X : List Int) : List Value := X.map (Value.int .u8)
theorem bs_append (X Y : List Int) : bs (X ++ Y) = bs X ++ bs Y := List.map_append
theorem bs_length (X : List Int) : (bs X).length = X.length := List.length_map _
theorem bs_at (X : List Int) (q : Nat) (h : q < X.length) : (bs X)[q]? = some (.int .u8 (X.getD q 0)) := by
  simp [bs, List.getElem?_eq_getElem h]

/-- 'want' after one more byte. -/
theorem pushed {gw m C : Nat} {X : List Int} {x : Int} {w3 wr w' : World} {o : Obj} (hb : Below gw w3 wr) (hle : gw ≤ w3.heap.size)
    (hown' : w'.ownsRow gw 5 1 (.slice (some ⟨gw, 0, none⟩) (m + 1) C) (m + 1) (bs X ++ [.int .u8 x])) (hgrow : (wr.alloc o).grownBy w' (some gw)) :
    w'.ownsRow gw 5 1 (.slice (some ⟨gw, 0, none⟩) (m + 1) C) (m + 1) (bs (X ++ [x])) ∧ Below gw w3 w' := by
  have hs := hb.size
  refine ⟨by rw [bs_append]; exact hown', (hb.alloc (by omega) _).grown hgrow (by simp; omega) (fun k hk => by cases hk; exact Nat.le_refl _)⟩

theorem bytes_one (l : List UInt8) : ∀ v ∈ Lib.byteCells l, v.oneCell' = true := by
  intro v hv
  simp only [Lib.byteCells, List.mem_map] at hv
  obtain ⟨b, _, rfl⟩ := hv
  rfl
theorem one_byte (x : Int) : ∀ v ∈ [Value.int .u8 x], v.oneCell' = true := by
  intro v hv
  simp at hv
  subst hv
  rfl

set_option maxHeartbeats 3200000 in
set_option maxRecDepth 100000 in
theorem law_walk (a : Option Addr) (n cap : Nat) (z : List Int) (u : Nat) (p1 p2 : ByteArray) (w : World) (hu : u < 4294967296) (hn : n ≤ 1024) (h1 : p1.size ≤ 1024) (h2 : p2.size ≤ 1024) (hz : z.length = n)
    (hnone : a = none → n = 0) (hcell : ∀ ad, a = some ad → ∀ j v, (z.map (Value.int .u8))[j]? = some v → ad.block < w.heap.size ∧ w.cell? (ad.add j) = some v)
    (htab : Lib.TabIs Ybad.prog w powName .u64 Lib.pow10Tab) :
    Calls Ybad.prog 3 #[.slice a n cap, .int .u32 u, .string p1, .string p2] w fun e w' => e = .returned (.bool true) ∧ Below w.heap.size w w' := by
  obtain ⟨i0, hi, hz0, hz1, hz2⟩ := info_parts Ybad.info5
  have g0 : decide ((1024 : Int) < (n : Int)) = false := decide_eq_false (by omega)
  have g1 : decide ((1024 : Int) < (p1.size : Int)) = false := decide_eq_false (by omega)
  have g2 : decide ((1024 : Int) < (p2.size : Int)) = false := decide_eq_false (by omega)
  have HC := Lib.hid hcell
  have HN := Lib.hid hnone
  have HT := Lib.hid htab
  clear hcell hnone htab
  have hmk := run_make_row' (P := Ybad.prog) 22 5 (.int .u8 0) 1 Ybad.underlying22 Ybad.info5 rfl .i64 .i64 n (by omega) (by omega)
  obtain ⟨w1, hcp, hin, hb1, hs1⟩ := copy_run a n cap z w hz HN.out HC.out
  have HI := Lib.hid hin
  have HB1 := Lib.hid hb1
  clear hin hb1
  go_enter Ybad.func3, Ybad.ntmps3
  go_wp2_with fail
  have hzl : (z.map (Value.int .u8)).length = n := by simpa using hz
  have hinc : ∀ j v, (z.map (Value.int .u8))[j]? = some v → (w1.alloc (.cells #[.int .u32 u, .string p1, .string p2] 25)).cell? ((⟨w.heap.size, 0, none⟩ : Addr).add j) = some v := by
    intro j v hj
    have hjl : j < n := by have := (List.getElem?_eq_some_iff.1 hj).1; omega
    rw [Lib.add_plain, World.cell?_alloc_past _ _ _ (by omega), Nat.zero_add, HI.out j hjl, ← hj]
    simp [List.getElem?_eq_getElem (show j < z.length by omega)]
  have htab2 : Lib.TabIs Ybad.prog (w1.alloc (.cells #[.int .u32 u, .string p1, .string p2] 25)) powName .u64 Lib.pow10Tab :=
    Lib.tabIs_alloc (tab_below HB1.out HT.out) _
  refine (dig_any u hu p1 p2 h1 h2 w.heap.size n (z.map (Value.int .u8)) _ hzl hinc (by simp; omega) hn htab2).mono ?_
  clear hinc htab2 hzl
  rintro e w3 ⟨v3, N, rfl, hown3, hb3⟩
  simp only [World.size_alloc, hs1] at hown3 hb3
  have hs3 := hb3.size
  simp only [World.size_alloc, hs1] at hs3
  -- what is known of the world behind the call
  obtain ⟨L, hL⟩ : ∃ L : List Int, L = z ++ tailI u p1 p2 := ⟨_, rfl⟩
  rw [tail_eq, ← List.map_append, ← hL] at hown3
  have HL := Lib.hid hL
  have hNL : L.length = N := by have := hown3.1; simpa using this
  have hLl : L.length = n + (Lib.decDigits u).length + 1 + p1.size + 1 + p2.size := by rw [hL, List.length_append, tailI_length, hz]; omega
  have hDl := digits_len u (by omega)
  have hD10 : (Lib.decDigits u).length ≤ 10 := by rw [Lib.decDigits_length]; exact nDigits_le 9 u (by omega)
  obtain ⟨gg, capg, hv, hgg, hcapg⟩ : ∃ gg cap, v3 = .slice (some ⟨gg, 0, none⟩) N cap ∧ gg < w3.heap.size ∧ N ≤ cap := by
    rcases hown3.2 with ⟨_, hl⟩ | ⟨g, cap, cur, hv, _, hh, hc, _⟩
    · omega
    · exact ⟨g, cap, hv, (Array.getElem?_eq_some_iff.1 hh).1, hc⟩
  subst hv
  have HGot : Hid (∀ q, q < N → w3.cell? ⟨gg, q, none⟩ = some (.int .u8 (L.getD q 0))) := fun q hq => by
    rw [hown3.cellAt q (by omega)]
    simp [List.getElem?_eq_getElem (show q < L.length by omega)]
  have bw3 : Below w.heap.size w w3 := (HB1.out.alloc HB1.out.size _).trans (hb3.mono (by omega))
  have HIn : Hid (∀ q, q < n → w3.cell? ⟨w.heap.size, q, none⟩ = some (.int .u8 (z.getD q 0))) := fun q hq =>
    (hb3.cell (show w.heap.size < w.heap.size + 1 + 1 by omega)).trans ((World.cell?_alloc_past _ _ _ (by omega)).trans (HI.out q hq))
  have HD : Hid (∀ ad, a = some ad → ∀ q, q < n → ad.block < w.heap.size ∧ w3.cell? (ad.add q) = some (.int .u8 (z.getD q 0))) := fun ad h q hq => by
    have hu : (z.map (Value.int .u8))[q]? = some (.int .u8 (z.getD q 0)) := by simp [List.getElem?_eq_getElem (show q < z.length by omega)]
    exact ⟨(HC.out ad h q _ hu).1, (bw3.cell (by rw [add_block]; exact (HC.out ad h q _ hu).1)).trans (HC.out ad h q _ hu).2⟩
  have HB3 := Lib.hid bw3
  have HNL := Lib.hid hNL
  have hN1 : N ≤ n + (Lib.decDigits u).length + 1 + p1.size + 1 + p2.size := by omega
  have hN2 : n + (Lib.decDigits u).length + 1 + p1.size + 1 + p2.size ≤ N := by omega
  clear hown3 hb3 bw3 hL HB1 HI HC HT hmk hcp hs1 hNL hLl
  obtain ⟨gw, hgw⟩ : ∃ gw, gw = w3.heap.size := ⟨_, rfl⟩
  obtain ⟨C, hC1, hCb⟩ : ∃ C, n + p1.size + p2.size + 12 ≤ C ∧ C ≤ n + p1.size + p2.size + 12 := ⟨_, Nat.le_refl _, Nat.le_refl _⟩
  go_wp2_with (at_make; refine wpList_make_own _ rfl _ _ 22 rfl w3.heap.size 5 i0 (.int .u8 0) 1 Ybad.underlying22 hi hz0 hz1 _ _ _ C rfl rfl (by omega) ?b2 ?b3 (Nat.le_refl _) ?_)
  case b2 => rw [hz2]; omega
  case b3 => unfold maxLen; omega
  intro w4 hown4 hgrow4
  have hb4 : Below w3.heap.size w3 w4 := (Below.refl _ _).grown hgrow4 (Nat.le_refl _) (fun k hk => by cases hk)
  rw [← hgw] at hown4 hb4 hs3 hgg ⊢
  have hle : gw ≤ w3.heap.size := by omega
  clear hgrow4 hgw
  go_wp2
  go_loopw [12, 13] (fun wv i wr => ∃ k : Nat, k ≤ n ∧ i = .int .i64 k ∧ wv = .slice (some ⟨gw, 0, none⟩) k C ∧ wr.ownsRow gw 5 1 (.slice (some ⟨gw, 0, none⟩) k C) k (bs (z.take k)) ∧ Below gw w3 wr) (fun _ i _ => n - (intOf i).toNat)
  case atStart => exact ⟨0, Nat.zero_le _, rfl, rfl, hown4, hb4⟩
  case round =>
    clear hown4 hb4
    obtain ⟨k, hk, rfl, rfl, hown, hb⟩ := hrel
    have hsr := hb.size
    by_cases hlt : k < n
    · obtain ⟨b, off, ha⟩ : ∃ b off, a = some ⟨b, off, none⟩ := by
        cases a with
        | none => have := HN.out rfl; omega
        | some ad =>
          obtain ⟨b, off, spot⟩ := ad
          have hspot : spot = none := by simpa [Addr.add] using World.cell?_spot (HD.out _ rfl 0 (by omega)).2
          exact ⟨b, off, by rw [hspot]⟩
      subst ha
      have t1 : wr.cell? ⟨b, off + k, none⟩ = some (.int .u8 (z.getD k 0)) := by
        have h := HD.out _ rfl k hlt
        rw [Lib.add_plain] at h
        exact (hb.cell (by have := h.1; simp only at this ⊢; omega)).trans h.2
      have HT := Lib.hid (ints_take z k (by omega))
      obtain ⟨y, hy⟩ : ∃ y, y = z.getD k 0 := ⟨_, rfl⟩
      rw [← hy] at t1 HT
      clear hy
      go_wp2_with (first
        | (at_builtin; refine wpList_append_fits _ rfl (.tmp 60) (.tmp 65) 22 rfl gw 5 i0 1 Ybad.underlying22 hi hz1 gw k C _ rfl (hown.alloc _) ⟨wr.heap.size, 0, none⟩ 1 1 [.int .u8 y] rfl rfl (one_new _ _ _) (one_byte _) (by omega) ?_)
        | fail)
      intro w' hown' hgrow'
      have R := Lib.hid (pushed hb hle hown' hgrow')
      clear hown' hgrow' hown hb
      go_wp2
      go_roundw
      case rel => exact ⟨k + 1, by omega, by go_num, rfl, by rw [HT.out]; exact R.out.1, R.out.2⟩
      case measure => simp [intOf]; omega
    · have e : n = k := by omega
      subst e
      rename World => wa
      rw [List.take_of_length_le (by omega)] at hown
      have hla := (hown.lt gw rfl).2
      have HB := Lib.hid hb
      clear hb
      go_wp2_with fail
      refine (dec_any u hu wa).mono ?_
      rintro e w5 ⟨g5, c5, rfl, hdc, hb5⟩
      have hown5 := hown.kept (row := none) (World.grownBy.mk hb5.os hb5.tape hb5.output hb5.size (fun k hk _ => hb5.block k hk)) (.inr (by simp [Value.ownBlock]))
      have hc5 : ∀ j v, (Lib.byteCells (Lib.decDigits u))[j]? = some v → w5.cell? ((⟨g5, 0, none⟩ : Addr).add j) = some v := fun j v hj => by
        rw [Lib.add_plain, Nat.zero_add]; exact hdc j v hj
      have HB5 := Lib.hid (HB.out.trans (hb5.mono (Nat.le_trans hle hsr)))
      have hs5 := hb5.size
      clear hdc hb5 hown HB
      go_wp2_with (first
        | (at_builtin; refine wpList_append_fits _ rfl (.tmp 67) (.tmp 69) 22 rfl gw 5 i0 1 Ybad.underlying22 hi hz1 gw n C _ rfl hown5 ⟨g5, 0, none⟩ (Lib.decDigits u).length c5 (Lib.byteCells (Lib.decDigits u)) rfl (by rw [Lib.byteCells_length]; omega) hc5 (bytes_one _) (by omega) ?_)
        | fail)
      intro w6 hown6 hgrow6
      have HO6 := Lib.hid (show w6.ownsRow gw 5 1 (.slice (some ⟨gw, 0, none⟩) (n + (Lib.decDigits u).length) C) (n + (Lib.decDigits u).length) (bs (z ++ digs u)) by
        rw [bs_append, show bs (digs u) = Lib.byteCells (Lib.decDigits u) from digs_cells u]; exact hown6)
      have hb6 : Below gw w3 w6 := HB5.out.grown hgrow6 (by omega) (fun k hk => by cases hk; exact Nat.le_refl _)
      have hs6 := hgrow6.size
      have HB6 := Lib.hid hb6
      clear hown6 hgrow6 hb6 hown5 HB5 hc5
      go_wp2_with (first
        | (at_builtin; refine wpList_append_fits _ rfl (.tmp 71) (.tmp 72) 22 rfl gw 5 i0 1 Ybad.underlying22 hi hz1 gw (n + (Lib.decDigits u).length) C _ rfl (HO6.out.alloc _) ⟨w6.heap.size, 0, none⟩ 1 1 [.int .u8 58] rfl rfl (one_new _ _ _) (one_byte _) (by omega) ?_)
        | fail)
      intro w7 hown7 hgrow7
      obtain ⟨X1, hX1⟩ : ∃ X1, X1 = z ++ digs u ++ [58] := ⟨_, rfl⟩
      have R7 := Lib.hid (pushed HB6.out hle hown7 hgrow7)
      rw [← hX1] at R7
      have HX1 := Lib.hid hX1
      clear hown7 hgrow7 HO6 HB6 hX1
      go_wp2
      go_loopw [12, 14] (fun wv i wr => ∃ k : Nat, k ≤ p1.size ∧ i = .int .i64 k ∧ wv = .slice (some ⟨gw, 0, none⟩) (n + (Lib.decDigits u).length + 1 + k) C ∧
          wr.ownsRow gw 5 1 (.slice (some ⟨gw, 0, none⟩) (n + (Lib.decDigits u).length + 1 + k) C) (n + (Lib.decDigits u).length + 1 + k) (bs (X1 ++ (nums p1).take k)) ∧ Below gw w3 wr) (fun _ i _ => p1.size - (intOf i).toNat)
      case atStart => exact ⟨0, Nat.zero_le _, rfl, rfl, by rw [List.take_zero, List.append_nil]; exact R7.out.1, R7.out.2⟩
      case round =>
        clear R7
        obtain ⟨k, hk, rfl, rfl, hown, hb⟩ := hrel
        have hsr := hb.size
        by_cases hlt : k < p1.size
        · have HT := Lib.hid (nums_take p1 k hlt)
          go_wp2_with (first
            | (at_builtin; refine wpList_append_fits _ rfl (.tmp 80) (.tmp 84) 22 rfl gw 5 i0 1 Ybad.underlying22 hi hz1 gw (n + (Lib.decDigits u).length + 1 + k) C _ rfl (hown.alloc _) ⟨wr.heap.size, 0, none⟩ 1 1 [.int .u8 (p1[k].toNat : Int)] rfl rfl (one_new _ _ _) (one_byte _) (by omega) ?_)
            | fail)
          intro w' hown' hgrow'
          have R := Lib.hid (pushed hb hle hown' hgrow')
          clear hown' hgrow' hown hb
          go_wp2
          go_roundw
          case rel => exact ⟨k + 1, by omega, by go_num, rfl, by rw [HT.out, ← List.append_assoc]; exact R.out.1, R.out.2⟩
          case measure => simp [intOf]; omega
        · have e : k = p1.size := by omega
          subst e
          rename World => wb
          rw [List.take_of_length_le (by rw [nums_length]; exact Nat.le_refl _)] at hown
          have HO := Lib.hid hown
          have HB := Lib.hid hb
          clear hown hb
          go_wp2_with (first
            | (at_builtin; refine wpList_append_fits _ rfl (.tmp 86) (.tmp 87) 22 rfl gw 5 i0 1 Ybad.underlying22 hi hz1 gw (n + (Lib.decDigits u).length + 1 + p1.size) C _ rfl (HO.out.alloc _) ⟨wb.heap.size, 0, none⟩ 1 1 [.int .u8 58] rfl rfl (one_new _ _ _) (one_byte _) (by omega) ?_)
            | fail)
          intro w8 hown8 hgrow8
          obtain ⟨X2, hX2⟩ : ∃ X2, X2 = X1 ++ nums p1 ++ [58] := ⟨_, rfl⟩
          have R8 := Lib.hid (pushed HB.out hle hown8 hgrow8)
          rw [← hX2] at R8
          have HX2 := Lib.hid hX2
          clear hown8 hgrow8 HO HB hX2
          go_wp2
          go_loopw [12, 15] (fun wv i wr => ∃ k : Nat, k ≤ p2.size ∧ i = .int .i64 k ∧ wv = .slice (some ⟨gw, 0, none⟩) (n + (Lib.decDigits u).length + 1 + p1.size + 1 + k) C ∧
              wr.ownsRow gw 5 1 (.slice (some ⟨gw, 0, none⟩) (n + (Lib.decDigits u).length + 1 + p1.size + 1 + k) C) (n + (Lib.decDigits u).length + 1 + p1.size + 1 + k) (bs (X2 ++ (nums p2).take k)) ∧ Below gw w3 wr) (fun _ i _ => p2.size - (intOf i).toNat)
          case atStart => exact ⟨0, Nat.zero_le _, rfl, rfl, by rw [List.take_zero, List.append_nil]; exact R8.out.1, R8.out.2⟩
          case round =>
            clear R8
            obtain ⟨k, hk, rfl, rfl, hown, hb⟩ := hrel
            have hsr := hb.size
            by_cases hlt : k < p2.size
            · have HT := Lib.hid (nums_take p2 k hlt)
              go_wp2_with (first
                | (at_builtin; refine wpList_append_fits _ rfl (.tmp 95) (.tmp 99) 22 rfl gw 5 i0 1 Ybad.underlying22 hi hz1 gw (n + (Lib.decDigits u).length + 1 + p1.size + 1 + k) C _ rfl (hown.alloc _) ⟨wr.heap.size, 0, none⟩ 1 1 [.int .u8 (p2[k].toNat : Int)] rfl rfl (one_new _ _ _) (one_byte _) (by omega) ?_)
                | fail)
              intro w' hown' hgrow'
              have R := Lib.hid (pushed hb hle hown' hgrow')
              clear hown' hgrow' hown hb
              go_wp2
              go_roundw
              case rel => exact ⟨k + 1, by omega, by go_num, rfl, by rw [HT.out, ← List.append_assoc]; exact R.out.1, R.out.2⟩
              case measure => simp [intOf]; omega
            · have e : k = p2.size := by omega
              subst e
              rename World => wz
              rw [List.take_of_length_le (by rw [nums_length]; exact Nat.le_refl _)] at hown
              have hX : X2 ++ nums p2 = L := by rw [HL.out, HX2.out, HX1.out]; simp [tailI]
              rw [hX] at hown
              have hLN := HNL.out
              have HW : Hid (∀ q, q < N → wz.cell? ⟨gw, q, none⟩ = some (.int .u8 (L.getD q 0))) := fun q hq => by
                rw [hown.cellAt q (by omega)]
                exact bs_at L q (by omega)
              have HG : Hid (∀ q, q < N → wz.cell? ⟨gg, q, none⟩ = some (.int .u8 (L.getD q 0))) := fun q hq => (hb.cell hgg).trans (HGot.out q hq)
              have HI : Hid (∀ q, q < n → wz.cell? ⟨w.heap.size, q, none⟩ = some (.int .u8 (z.getD q 0))) := fun q hq => (hb.cell (show w.heap.size < gw by omega)).trans (HIn.out q hq)
              have HD2 : Hid (∀ ad, a = some ad → ∀ q, q < n → wz.cell? (ad.add q) = some (.int .u8 (z.getD q 0))) := fun ad h q hq =>
                (hb.cell (by rw [add_block]; have := (HD.out ad h q hq).1; omega)).trans (HD.out ad h q hq).2
              have HBz := Lib.hid (HB3.out.trans (hb.mono (show w.heap.size ≤ gw by omega)))
              have hNM : ((N : Int) != ((n + (Lib.decDigits u).length + 1 + p1.size + 1 + p2.size : Nat) : Int)) = false := by
                rw [bne_eq_false_iff_eq]; omega
              obtain ⟨M, hM1, hM2, hM3, hMe⟩ : ∃ M, M ≤ N ∧ N ≤ M ∧ M ≤ 5000 ∧ n + (Lib.decDigits u).length + 1 + p1.size + 1 + p2.size = M := ⟨_, by omega, by omega, by omega, rfl⟩
              rw [hMe] at hNM ⊢
              clear hMe hLN hX hown hb HGot HIn HD HB3 HL HX1 HX2 HNL hN1 hN2
              go_wp2
              go_loopw [16] (fun i wr => ∃ k q : Nat, k ≤ M ∧ i = .int .i64 k ∧ wr = wz.drewN q) (fun i _ => M - (intOf i).toNat)
              case atStart => exact ⟨0, 0, Nat.zero_le _, rfl, rfl⟩
              case round =>
                obtain ⟨k, q, hk, rfl, rfl⟩ := hrel
                by_cases hlt : k < M
                · have t1 := HG.out k (by omega)
                  have t2 := HW.out k (by omega)
                  generalize L.getD k 0 = y at t1 t2
                  have i1 : (k : Int) < (N : Int) := by omega
                  have i2 : (k : Int) < (M : Int) := by omega
                  go_wp2_with fail
                  go_quiet (fail)
                  go_wp2_with fail
                  go_roundw
                  case rel => exact ⟨k + 1, _, by omega, by go_num, rfl⟩
                  case measure => simp [intOf]; omega
                · go_wp2
                  go_loopw [17] (fun i wr => ∃ k q : Nat, k ≤ n ∧ i = .int .i64 k ∧ wr = wz.drewN q) (fun i _ => n - (intOf i).toNat)
                  case atStart => exact ⟨0, _, Nat.zero_le _, rfl, rfl⟩
                  case round =>
                    obtain ⟨k, q, hk, rfl, rfl⟩ := hrel
                    by_cases hlt : k < n
                    · obtain ⟨b, off, ha⟩ : ∃ b off, a = some ⟨b, off, none⟩ := by
                        cases a with
                        | none => have := HN.out rfl; omega
                        | some ad =>
                          obtain ⟨b, off, spot⟩ := ad
                          have hspot : spot = none := by simpa [Addr.add] using World.cell?_spot (HD2.out _ rfl 0 (by omega))
                          exact ⟨b, off, by rw [hspot]⟩
                      subst ha
                      have t1 := HI.out k hlt
                      have t2 : wz.cell? ⟨b, off + k, none⟩ = some (.int .u8 (z.getD k 0)) := by
                        have h := HD2.out _ rfl k hlt
                        rw [Lib.add_plain] at h
                        exact h
                      generalize z.getD k 0 = y at t1 t2
                      have i1 : (k : Int) < (n : Int) := by omega
                      go_wp2_with fail
                      go_quiet (fail)
                      go_wp2_with fail
                      go_roundw
                      case rel => exact ⟨k + 1, _, by omega, by go_num, rfl⟩
                      case measure => simp [intOf]; omega
                    · go_wp2
                      go_ret
                      exact ⟨rfl, HBz.out.trans ⟨rfl, rfl, rfl, Nat.le_refl _, fun _ _ => rfl⟩⟩
end Go.Proofs.YbulkcpveDoor
