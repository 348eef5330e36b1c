/-
  THE WALK of 'LawS4587BLead' (function 4).
-/
import Derived.Test.YbulkcpyyKind
import Derived.BigQuiet
import Derived.Deep.QuietTactic
import Derived.Deep.OwnRows
import Derived.OpenShut
namespace Go.Proofs.Ybulkcpyy
open Go.RowKit Go.Deep

theorem Yba.info5 : (Yba.prog.info? 5).map (fun i => (i.zero, i.size, i.bytes)) = some (some (.int .u8 0), 1, 1) := by kernel_rfl

/-- The leading characters. -/
def leads : ByteArray := ⟨#[123, 91, 34, 116, 102, 110, 45, 48, 49, 50, 51, 52, 53, 54, 55, 56, 57]⟩
/-- Their kinds, as the law lists them. -/
def kinds : Array Value := #[.string ⟨#[111, 98, 106, 101, 99, 116]⟩, .string ⟨#[97, 114, 114, 97, 121]⟩, .string ⟨#[115, 116, 114, 105, 110, 103]⟩, .string ⟨#[98, 111, 111, 108]⟩, .string ⟨#[98, 111, 111, 108]⟩, .string ⟨#[110, 117, 108, 108]⟩,
  .string ⟨#[110, 117, 109, 98, 101, 114]⟩, .string ⟨#[110, 117, 109, 98, 101, 114]⟩, .string ⟨#[110, 117, 109, 98, 101, 114]⟩, .string ⟨#[110, 117, 109, 98, 101, 114]⟩, .string ⟨#[110, 117, 109, 98, 101, 114]⟩, .string ⟨#[110, 117, 109, 98, 101, 114]⟩,
  .string ⟨#[110, 117, 109, 98, 101, 114]⟩, .string ⟨#[110, 117, 109, 98, 101, 114]⟩, .string ⟨#[110, 117, 109, 98, 101, 114]⟩, .string ⟨#[110, 117, 109, 98, 101, 114]⟩]
theorem leads_size : leads.size = 17 := rfl
theorem kinds_at (j : Nat) (hj : j < 16) : ∃ h : j < leads.size, kinds[j]? = some (.string (kindOf (leads[j].toNat : Int))) := by
  refine ⟨by rw [leads_size]; omega, ?_⟩
  rcases (show j = 0 ∨ j = 1 ∨ j = 2 ∨ j = 3 ∨ j = 4 ∨ j = 5 ∨ j = 6 ∨ j = 7 ∨ j = 8 ∨ j = 9 ∨ j = 10 ∨ j = 11 ∨ j = 12 ∨ j = 13 ∨ j = 14 ∨ j = 15 by omega) with h | h | h | h | h | h | h | h | h | h | h | h | h | h | h | h <;> (subst h; rfl)

theorem add_block (a : Addr) (j : Nat) : (a.add j).block = a.block := by
  unfold Addr.add
  split <;> rfl

theorem lead_walk (a0 : Int) (a : Option Addr) (len cap : Nat) (z : List Int) (w : World) (h0 : 0 ≤ a0) (h1 : a0 ≤ 255) (hlen : len ≤ 4096) (hz : z.length = len)
    (hnone : a = none → len = 0 ∧ cap = 0) (hcell : ∀ ad, a = some ad → ∀ j u, (z.map (Value.int .u8))[j]? = some u → ad.block < w.heap.size ∧ w.cell? (ad.add j) = some u) :
    Calls Yba.prog 4 #[.int .u8 a0, .slice a len cap] w fun e w' => e = .returned (.bool true) ∧ Below w.heap.size w w' := by
  obtain ⟨j, hj, he⟩ : ∃ j : Nat, j < 16 ∧ a0 % 16 = (j : Int) := ⟨(a0 % 16).toNat, by omega, by omega⟩
  obtain ⟨i0, hi, hz0, hz1, hz2⟩ := info_parts Yba.info5
  have hl4 : decide ((4096 : Int) < (len : Int)) = false := decide_eq_false (by omega)
  have HC : Hid (∀ ad, a = some ad → ∀ j u, (z.map (Value.int .u8))[j]? = some u → ad.block < w.heap.size ∧ w.cell? (ad.add j) = some u) := hcell
  have HN : Hid (a = none → len = 0 ∧ cap = 0) := hnone
  clear hcell hnone
  go_enter Yba.func4, Yba.ntmps4
  go_wp2_with (at_make; refine wpList_make_own _ rfl _ _ 22 rfl (w.heap.size + 1) 5 i0 (.int .u8 0) 1 Yba.underlying22 hi hz0 hz1 _ _ _ (len + 1) rfl rfl (by omega) ?b2 ?b3 (by simp) ?_)
  case b2 => rw [hz2]; omega
  case b3 => unfold maxLen; omega
  intro w1 hown1 hgrow1
  obtain ⟨hjl, hk⟩ := kinds_at j hj
  have hls := leads_size
  have k1 : w1.cell? ⟨w.heap.size, j, none⟩ = some (.string (kindOf (leads[j].toNat : Int))) :=
    hgrow1.cell (a := ⟨w.heap.size, j, none⟩) ((World.cell?_alloc_at kinds 25 w.heap.size j rfl).trans hk) (by simp)
  have b1 : Below w.heap.size w w1 := ((Below.refl _ w).alloc (Nat.le_refl _) _).grown hgrow1 (by simp) (fun k h => by cases h)
  clear hk hgrow1
  generalize hLD : (⟨#[123, 91, 34, 116, 102, 110, 45, 48, 49, 50, 51, 52, 53, 54, 55, 56, 57]⟩ : ByteArray) = LD
  obtain rfl : LD = leads := hLD.symm
  clear hLD
  generalize leads = LD at *
  obtain ⟨c, hc⟩ : ∃ c : Int, c = (LD[j].toNat : Int) := ⟨_, rfl⟩
  rw [← hc] at k1
  have Hc := hc.symm
  clear hc
  go_wp2_with (first
    | (at_builtin; refine wpList_append_fits _ rfl (.tmp 21) (.tmp 25) 22 rfl (w.heap.size + 1) 5 i0 1 Yba.underlying22 hi hz1 (w.heap.size + 1) 0 (len + 1) _ rfl (hown1.alloc _) ⟨w1.heap.size, 0, none⟩ 1 1 [.int .u8 c] rfl rfl ?c1 ?c2 (by omega) ?_)
    | fail)
  case c1 =>
    intro q u hq
    match q, hq with
    | 0, hq => simp at hq; subst hq; simp [Addr.add]
  case c2 => intro u hu; simp at hu; subst hu; rfl
  intro w2 hown2 hgrow2
  have hown2 : w2.ownsRow (w.heap.size + 1) 5 1 (.slice (some ⟨w.heap.size + 1, 0, none⟩) 1 (len + 1)) 1 [.int .u8 c] := hown2
  have k2 : w2.cell? ⟨w.heap.size, j, none⟩ = some (.string (kindOf c)) := hgrow2.cell ((World.cell?_alloc_past _ _ _ (by have := b1.size; have := hown1.lt _ rfl; omega)).trans k1) (by simp)
  have b2 : Below w.heap.size w w2 := (b1.alloc b1.size _).grown hgrow2 (by have := b1.size; simp; omega) (fun k h => by cases h; omega)
  clear k1 b1 hown1 hgrow2
  have HC2 : Hid (∀ ad, a = some ad → ∀ j u, (z.map (Value.int .u8))[j]? = some u → w2.cell? (ad.add j) = some u) := fun ad h q u hq => (b2.cell (by rw [add_block]; exact (HC.out ad h q u hq).1)).trans (HC.out ad h q u hq).2
  go_wp2_with (first
    | (at_builtin; refine wpList_append_fits_any _ rfl (.tmp 27) (.tmp 28) 22 rfl (w.heap.size + 1) 5 i0 1 Yba.underlying22 hi hz1 (w.heap.size + 1) 1 (len + 1) _ rfl hown2 a len cap (z.map (Value.int .u8)) rfl (by simp [hz]) HN.out HC2.out (ints_oneCell _ _) (by omega) ?_)
    | fail)
  intro w3 hown3 hgrow3
  have hB : w.heap.size + 1 < w2.heap.size := (hown2.lt _ rfl).2
  have k3 : w3.cell? ⟨w.heap.size, j, none⟩ = some (.string (kindOf c)) := hgrow3.cell k2 (by simp)
  have b3 : Below w.heap.size w w3 := b2.grown hgrow3 b2.size (fun k h => by cases h; omega)
  have v3 : w3.cell? ⟨w.heap.size + 1, 0, none⟩ = some (.int .u8 c) := by rw [hown3.cellAt 0 (by omega)]; rfl
  have HV : Hid (∀ q, q < len → w3.cell? ⟨w.heap.size + 1, q + 1, none⟩ = some (.int .u8 (z.getD q 0))) := fun q hq => by
    rw [hown3.cellAt (q + 1) (by omega)]
    simp [List.getElem?_eq_getElem (show q < z.length by omega)]
  have HT : Hid (∀ ad, a = some ad → ∀ q, q < len → w3.cell? (ad.add q) = some (.int .u8 (z.getD q 0))) := fun ad h q hq => by
    have hu : (z.map (Value.int .u8))[q]? = some (.int .u8 (z.getD q 0)) := by simp [List.getElem?_eq_getElem (show q < z.length by omega)]
    exact (b3.cell (by rw [add_block]; exact (HC.out ad h q _ hu).1)).trans (HC.out ad h q _ hu).2
  have HB : Hid (Below w.heap.size w w3) := b3
  clear hown3 hgrow3 k2 b2 hown2 HC2 hB b3
  go_wp2_with fail
  go_quiet ((go_at_call 5; exact Calls.quiet_of_same (kind_any _ _ _ _ c _ (by omega) v3)))
  go_wp2_with fail
  go_quiet (fail)
  go_wp2_with fail
  go_loopw [9] (fun i wr => ∃ q n : Nat, q ≤ len ∧ i = .int .i64 q ∧ wr = w3.drewN n) (fun i _ => len - (intOf i).toNat)
  case atStart => exact ⟨0, _, Nat.zero_le _, rfl, World.drewN_drewN _ _ _⟩
  case round =>
    obtain ⟨q, n, hq, rfl, rfl⟩ := hrel
    by_cases hlt : q < len
    · obtain ⟨b, off, ha⟩ : ∃ b off, a = some ⟨b, off, none⟩ := by
        cases a with
        | none => have := (HN.out rfl).1; omega
        | some ad =>
          obtain ⟨b, off, spot⟩ := ad
          have hspot : spot = none := by simpa [Addr.add] using World.cell?_spot (HT.out _ rfl 0 (by omega))
          exact ⟨b, off, by rw [hspot]⟩
      subst ha
      have t1 : w3.cell? ⟨b, off + q, none⟩ = some (.int .u8 (z.getD q 0)) := by
        have := HT.out _ rfl q hlt
        rw [WideShapes.add_plain] at this
        exact this
      have t2 := HV.out q hlt
      generalize z.getD q 0 = y at t1 t2
      go_wp2_with fail
      go_quiet (fail)
      go_wp2_with fail
      go_roundw
      case rel => exact ⟨q + 1, _, by omega, by go_num, rfl⟩
      case measure => simp [intOf]; omega
    · go_wp2_with fail
      refine (kind_empty none 0 _).mono ?_
      rintro e w4 ⟨rfl, rfl⟩
      go_wp2_with fail
      refine (kind_empty _ _ _).mono ?_
      rintro e w4 ⟨rfl, rfl⟩
      go_wp2
      go_ret
      have hd : Below w.heap.size w (w3.drewN n) := HB.out.trans ⟨rfl, rfl, rfl, Nat.le_refl _, fun _ _ => rfl⟩
      exact ⟨rfl, hd.alloc hd.size _⟩
end Go.Proofs.Ybulkcpyy
