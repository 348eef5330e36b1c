/-
  THE WALK of 'zzs4580bdec' (function 5): the decimal digits, in new memory.
-/
import Derived.Test.YbulkcpveDoorDig
import Derived.Deep.OwnRows
import Derived.Deep.QuietTactic
import Derived.BigQuiet
namespace Go.Proofs.YbulkcpveDoor
open Go.RowKit Go.Sort Go.Deep

/-- Block b of w holds the n bytes f 0 .. f (n - 1), none frozen. -/
structure IsBytes (w : World) (b n : Nat) (f : Nat → Int) : Prop where
  cell : ∀ q, q < n → w.cell? ⟨b, q, none⟩ = some (.int .u8 (f q))
  free : ∀ q, w.frozen? ⟨b, q, none⟩ = false

theorem IsBytes.drewN {w : World} {b n : Nat} {f : Nat → Int} (h : IsBytes w b n f) (k : Nat) : IsBytes (w.drewN k) b n f := ⟨h.cell, h.free⟩
theorem IsBytes.congr {w : World} {b n : Nat} {f g : Nat → Int} (h : IsBytes w b n f) (e : ∀ q, q < n → f q = g q) : IsBytes w b n g :=
  ⟨fun q hq => by rw [h.cell q hq, e q hq], h.free⟩
theorem IsBytes.set {w : World} {b n : Nat} {f : Nat → Int} (h : IsBytes w b n f) (q0 : Nat) (x : Int) :
    IsBytes (w.setCell ⟨b, q0, none⟩ (.int .u8 x)) b n (fun q => if q = q0 then x else f q) := by
  refine ⟨fun q hq => ?_, fun q => (World.frozen?_setCell _ _ _ _).trans (h.free q)⟩
  by_cases e : q = q0
  · subst e
    rw [World.cell?_setCell_same _ _ _ (h.cell q hq), if_pos rfl]
  · rw [World.cell?_setCell_other _ _ _ _ (by intro h; simp only [Addr.mk.injEq] at h; omega), h.cell q hq, if_neg e]
/-- A new row of n noughts. -/
theorem IsBytes.made (w : World) (n : Nat) (e : TypeId) : IsBytes (w.alloc (.cells (madeCells #[Value.int .u8 0] n) e)) w.heap.size n (fun _ => 0) := by
  refine ⟨fun q hq => ?_, fun q => World.frozen?_alloc_at _ _ _ _ rfl⟩
  rw [World.cell?_alloc_at _ _ _ _ rfl]
  have := toList_madeCells_one (.int .u8 0) n
  rw [← Array.getElem?_toList, this]
  simp [hq]

/-- The digits still to come: none at 0. -/
def rest (m : Nat) : List UInt8 := if m = 0 then [] else Lib.decDigits m
theorem rest_step (m : Nat) (h : 0 < m) : rest m = rest (m / 10) ++ [UInt8.ofNat (48 + m % 10)] := by
  unfold rest
  rw [if_neg (by omega)]
  by_cases h10 : m < 10
  · rw [if_pos (by omega), Lib.decDigits_one h10, Nat.mod_eq_of_lt h10]; rfl
  · rw [if_neg (by omega), Lib.decDigits, dif_neg h10]
theorem digit_nat (m : Nat) : ((UInt8.ofNat (48 + m % 10)).toNat : Int) = 48 + (m : Int) % 10 := by
  rw [UInt8.toNat_ofNat']
  have : (48 + m % 10) % 2 ^ 8 = 48 + m % 10 := Nat.mod_eq_of_lt (by omega)
  omega

set_option maxHeartbeats 1600000 in
theorem dec_any (u : Nat) (hu : u < 4294967296) (w : World) :
    Calls Ybad.prog 5 #[.int .u32 u] w fun e w' => ∃ g c, e = .returned (.slice (some ⟨g, 0, none⟩) (Lib.decDigits u).length c) ∧
      (∀ j v, (Lib.byteCells (Lib.decDigits u))[j]? = some v → w'.cell? ⟨g, j, none⟩ = some v) ∧ Below w.heap.size w w' := by
  obtain ⟨i0, hi, hz0, hz1, hz2⟩ := info_parts Ybad.info5
  by_cases h0 : u = 0
  · subst h0
    have e0 : Lib.decDigits 0 = [48] := Lib.decDigits_one (by omega)
    rw [e0]
    go_enter Ybad.func5, Ybad.ntmps5
    go_wp2
    go_ret
    refine ⟨w.heap.size, 1, rfl, ?_, (Below.refl _ _).alloc (Nat.le_refl _) _⟩
    intro j v hj
    match j, hj with
    | 0, hj => simp [Lib.byteCells] at hj; subst hj; simp
  · have hlen := digits_len u (by omega)
    have hu0 : ((u : Int) == 0) = false := beq_eq_false_iff_ne.2 (by omega)
    have HD : Hid (rest u = Lib.decDigits u) := if_neg h0
    go_enter Ybad.func5, Ybad.ntmps5
    go_wp2
    go_loopw [0, 3] (fun nv rv wr => ∃ (m : Nat) (R : List UInt8), m ≤ u ∧ nv = .int .u32 m ∧ rest m ++ R.reverse = rest u ∧ wr.ownsRow w.heap.size 5 1 rv R.length (Lib.byteCells R) ∧ Below w.heap.size w wr) (fun nv _ _ => (intOf nv).toNat)
    case atStart => exact ⟨u, [], Nat.le_refl _, rfl, by simp, World.ownsRow_nil _ _ _ _, Below.refl _ _⟩
    case round =>
      obtain ⟨m, R, hm, rfl, hR, hown, hb⟩ := hrel
      have hRl : R.length ≤ 20 := by
        have := congrArg List.length hR
        rw [HD.out] at this
        simp at this
        omega
      have HR : Hid (rest m ++ R.reverse = rest u) := hR
      clear hR
      by_cases hpos : 0 < m
      · have HS : Hid (rest (m / 10) ++ (R ++ [UInt8.ofNat (48 + m % 10)]).reverse = rest u) := by
          have := HR.out
          rw [rest_step m hpos] at this
          show _ = _
          rw [← this]
          simp
        have hs := hb.size
        go_wp2_with (first
          | (at_builtin; refine wpList_append_own _ rfl (.tmp 11) (.tmp 16) 22 rfl w.heap.size 5 i0 (.int .u8 0) 1 1 Ybad.underlying22 hi hz0 hz1 hz2 rfl (by decide) _ _ _ rfl (hown.alloc _) ⟨wr.heap.size, 0, none⟩ 1 1 [.int .u8 (48 + (m : Int) % 10)] rfl rfl (one_new _ _ _) (by intro u hu; simp at hu; subst hu; rfl) (by unfold maxLen; omega) (by omega) (by simp; omega) ?_)
          | fail)
        intro v' w' hown' hgrow' _
        have hb' : Below w.heap.size w w' := (hb.alloc hs _).grown hgrow' (by simp; omega) (fun k hk => (hown.lt k hk).1)
        have ho : w'.ownsRow w.heap.size 5 1 v' (R ++ [UInt8.ofNat (48 + m % 10)]).length (Lib.byteCells (R ++ [UInt8.ofNat (48 + m % 10)])) := by
          have e : Lib.byteCells (R ++ [UInt8.ofNat (48 + m % 10)]) = Lib.byteCells R ++ [.int .u8 (48 + (m : Int) % 10)] := by
            simp only [Lib.byteCells, List.map_append, List.map_cons, List.map_nil, digit_nat]
          rw [e, List.length_append]
          exact hown'
        have HO := Lib.hid ho
        have HB := Lib.hid hb'
        clear hown hown' hgrow' hb hb' ho
        go_wp2
        go_roundw
        case rel => exact ⟨m / 10, R ++ [UInt8.ofNat (48 + m % 10)], by omega, by go_num, HS.out, HO.out, HB.out⟩
        case measure => simp [intOf]; omega
      · obtain rfl : m = 0 := by omega
        have hRu : R.reverse = Lib.decDigits u := by
          have := HR.out
          rw [HD.out] at this
          simpa [rest] using this
        have hRlen : R.length = (Lib.decDigits u).length := by rw [← hRu]; simp
        obtain ⟨g, cap, hv, hgw, hcap⟩ : ∃ g cap, u3 = .slice (some ⟨g, 0, none⟩) R.length cap ∧ g < wr.heap.size ∧ R.length ≤ cap := by
          rcases hown.2 with ⟨_, hl⟩ | ⟨g, cap, cur, hv, _, hh, hc, _⟩
          · omega
          · refine ⟨g, cap, hv, ?_, hc⟩
            exact (Array.getElem?_eq_some_iff.1 hh).1
        subst hv
        have HC : Hid (∀ q, q < R.length → wr.cell? ⟨g, q, none⟩ = some (.int .u8 ((R.getD q 0).toNat : Int))) := fun q hq => by
          rw [hown.cellAt q (by omega)]
          simp [Lib.byteCells, hq]
        have HB := Lib.hid hb
        have HU := Lib.hid hRu
        have hs := hb.size
        obtain ⟨n, hn⟩ : ∃ n, n = R.length := ⟨_, rfl⟩
        have HNn := Lib.hid hn
        rw [← hn] at hRl hRlen hcap HC ⊢
        have hn1 : 1 ≤ n := by omega
        have HL := Lib.hid hRlen
        clear hown hb hRu HR hn hRlen
        have hmk := run_make_row' (P := Ybad.prog) 22 5 (.int .u8 0) 1 Ybad.underlying22 Ybad.info5 rfl .i64 .i64 n (by omega) (by omega)
        go_wp2
        rename World => wm
        go_loopw [5] (fun i w2 => ∃ k : Nat, k ≤ n ∧ i = .int .i64 k ∧ IsBytes w2 wm.heap.size n (fun q => if q < k then ((R.getD (n - 1 - q) 0).toNat : Int) else 0) ∧
            Below wm.heap.size wm w2) (fun i _ => n - (intOf i).toNat)
        case atStart => exact ⟨0, Nat.zero_le _, rfl, (IsBytes.made wm n 5).congr (fun q _ => (if_neg (by omega)).symm), (Below.refl _ _).alloc (Nat.le_refl _) _⟩
        case round =>
          clear hmk
          obtain ⟨k, hk, rfl, hrow, hb2⟩ := hrel
          have HB2 := Lib.hid hb2
          have HRow := Lib.hid hrow
          by_cases hlt : k < n
          · have c1 : wr.cell? ⟨g, n - 1 - k, none⟩ = some (.int .u8 ((R.getD (n - 1 - k) 0).toNat : Int)) := (hb2.cell hgw).trans (HC.out _ (by omega))
            have c2 : wr.cell? ⟨wm.heap.size, k, none⟩ = some (.int .u8 0) := by rw [hrow.cell k hlt, if_neg (by omega)]
            have f2 := hrow.free k
            obtain ⟨y, hy⟩ : ∃ y : Int, y = ((R.getD (n - 1 - k) 0).toNat : Int) := ⟨_, rfl⟩
            rw [← hy] at c1
            have HY := Lib.hid hy
            clear hrow hb2 hy
            go_wp2
            go_roundw
            case rel =>
              refine ⟨k + 1, by omega, by go_num, (HRow.out.set k y).congr (fun q _ => ?_), HB2.out.setCell (Nat.le_refl _) _⟩
              by_cases e : q = k
              · subst e; rw [if_pos rfl, if_pos (by omega)]; exact HY.out
              · rw [if_neg e]
                by_cases l : q < k
                · rw [if_pos l, if_pos (by omega)]
                · rw [if_neg l, if_neg (by omega)]
            case measure => simp [intOf]; omega
          · obtain rfl : k = n := by omega
            clear hrow hb2
            go_wp2
            go_ret
            have HL2 := HL.out
            refine ⟨wm.heap.size, k, by rw [← HL2]; rfl, fun j v hj => ?_, HB.out.trans (HB2.out.mono hs)⟩
            have hjl : j < (Lib.decDigits u).length := by
              have h5 := (List.getElem?_eq_some_iff.1 hj).1
              rwa [Lib.byteCells_length] at h5
            rw [HRow.out.cell j (by omega), if_pos (by omega), ← hj]
            have hjr : j < R.length := by rw [← HNn.out]; omega
            rw [← HU.out]
            simp only [Lib.byteCells, List.getElem?_map, List.getElem?_reverse hjr, HNn.out]
            simp [show R.length - 1 - j < R.length by omega]
end Go.Proofs.YbulkcpveDoor
