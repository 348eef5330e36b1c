/-
  THE WALKS of 'internal/strconv.AppendUint' (function 7) and 'strconv.AppendUint' (function 6) AT BASE 10, onto a slice that has no spare room: the old array stays as it was.
  After the kit's own walks for an owned slice (Derived/Shelf/Strconv/AppendUint10.lean), with the arm of append that grows.
-/
import Derived.Test.YbulkcpveDoorRows
import Derived.Test.YbulkcpveDoorShelf
import Derived.Test.YbulkcpveDoorGrow
import Derived.Lib.Walk
import Derived.Lib.ItoaWalk
import Derived.Lib.ItoaMem
import Derived.Lib.AppendIntMem
import Derived.Lib.Slices
import Derived.Lib.Hide
import Derived.OwnWalk
import Derived.WalkKit
import Derived.ProofKit
import Derived.BigCall
import Derived.BigGuard
namespace Go.Proofs.YbulkcpveDoor
open Go.RowKit Go.Sort

/-- The table's name, as the row lists it. -/
def powName : String := Rows.lawS4580BExactRow.named.headD ""
theorem powName_eq : powName = Rows.lawS4580BExactRow.named.headD "" := rfl

theorem Ybad.info5 : (Ybad.prog.info? 5).map (fun i => (i.zero, i.size, i.bytes)) = some (some (.int .u8 0), 1, 1) := by kernel_rfl

theorem ownsRow_base {w : World} {base base' : Nat} {e : TypeId} {size : Nat} {v : Value} {n : Nat} {xs : List Value} (h : w.ownsRow base e size v n xs) (hb : base' ≤ base) : w.ownsRow base' e size v n xs := by
  obtain ⟨h1, h2⟩ := h
  refine ⟨h1, ?_⟩
  rcases h2 with h2 | ⟨g, cap, cur, hv, hg, r⟩
  · exact .inl h2
  · exact .inr ⟨g, cap, cur, hv, Nat.le_trans hb hg, r⟩

theorem digits_len (u : Nat) (h : u < 18446744073709551616) : 1 ≤ (Lib.decDigits u).length ∧ (Lib.decDigits u).length ≤ 20 := by
  rw [Lib.decDigits_length]
  by_cases h1 : u = 0
  · subst h1; rw [Lib.nDigits_small (by omega)]; omega
  · have h2 : Lib.nDigits u ≤ 20 := by have := Lib.numDigits_eq u (by omega) h; split at this <;> omega
    by_cases h10 : u < 10
    · rw [Lib.nDigits_small h10]; omega
    · have := Lib.nDigits_big h10; omega

set_option maxHeartbeats 3200000 in
set_option maxRecDepth 100000 in
theorem au_small (g n u : Nat) (hu : u < 100) (xs : List Value) (w : World) (hlo : xs.length = n) (holds : ∀ j v, xs[j]? = some v → w.cell? ((⟨g, 0, none⟩ : Addr).add j) = some v) (hlim : n ≤ 1000000) :
    Calls Ybad.prog 7 #[.slice (some ⟨g, 0, none⟩) n n, .int .u64 u, .int .i64 10] w fun e w' => ∃ v', e = .returned v' ∧ w'.ownsRow w.heap.size 5 1 v' (n + (Lib.decDigits u).length) (xs ++ Lib.byteCells (Lib.decDigits u)) ∧ Below w.heap.size w w' := by
  obtain ⟨i0, hi, hz0, hz1, hz2⟩ := info_parts Ybad.info5
  have hlen := digits_len u (by omega)
  have hsz : (⟨(Lib.decDigits u).toArray⟩ : ByteArray).size = (Lib.decDigits u).length := by simp [ByteArray.size]
  go_enter Ybad.func7, Ybad.ntmps7
  go_wp2_with (first
    | (go_at_call 8; refine (Any.internal_strconv_small Ybad.lays283 u hu _).mono ?_; rintro e w' ⟨rfl, rfl⟩)
    | (at_builtin; refine wpList_append_grows_string _ rfl _ _ 22 9 rfl 5 i0 Ybad.underlying22 Ybad.underlying9 hi hz0 hz1 hz2 ⟨g, 0, none⟩ n n xs rfl hlo holds ⟨(Lib.decDigits u).toArray⟩ rfl (by rw [hsz]; omega) (by rw [hsz]; unfold maxLen; omega) (by rw [hsz]; omega) ?_))
  intro v' w1 hown' hgrow
  go_wp2
  go_ret
  refine ⟨v', rfl, ?_, (Below.refl _ _).grown hgrow (Nat.le_refl _) (fun k hk => by cases hk)⟩
  exact hown'

set_option maxHeartbeats 6400000 in
set_option maxRecDepth 100000 in
theorem au_big (g n u : Nat) (hu : 100 ≤ u) (hu64 : u < 18446744073709551616) (xs : List Value) (w : World) (hlo : xs.length = n) (holds : ∀ j v, xs[j]? = some v → w.cell? ((⟨g, 0, none⟩ : Addr).add j) = some v) (hg : g < w.heap.size) (hlim : n ≤ 1000000)
    (htab : Lib.TabIs Ybad.prog w powName .u64 Lib.pow10Tab) :
    Calls Ybad.prog 7 #[.slice (some ⟨g, 0, none⟩) n n, .int .u64 u, .int .i64 10] w fun e w' => ∃ v', e = .returned v' ∧ w'.ownsRow w.heap.size 5 1 v' (n + (Lib.decDigits u).length) (xs ++ Lib.byteCells (Lib.decDigits u)) ∧ Below w.heap.size w w' := by
  obtain ⟨i0, hi, hz0, hz1, hz2⟩ := info_parts Ybad.info5
  have hu1 : 1 ≤ u := by omega
  have hlen := digits_len u (by omega)
  have hnd20 : Lib.nDigits u ≤ 20 := by rw [← Lib.decDigits_length]; omega
  have hnd1 : 1 ≤ Lib.nDigits u := by rw [← Lib.decDigits_length]; omega
  have hal : Ybad.prog.arrayLen 32 = 24 := by simp [Program.arrayLen, Ybad.underlying32]
  have hsl : ∀ W, (Instr.sliceAt 32 (.pointer (some ⟨w.heap.size, 0, none⟩)) none (some (.int .i64 (Lib.nDigits u : Int))) none).run Ybad.prog W = .ok (.slice (some ⟨w.heap.size, 0, none⟩) (Lib.nDigits u) 24) W := fun W => by
    rw [run_sliceAt_array_h W 32 ⟨w.heap.size, 0, none⟩ (by simp [Program.arrayLen, Program.elem, Ybad.underlying32]) .i64 (Lib.nDigits u : Int) (by omega) (by rw [hal]; omega)]
    go_simp
  have hH0 := Lib.holds_zero0 w 32 (Lib.nDigits u) (by omega)
  have hfmt := Any.internal_strconv_formatBase10 Ybad.lays285 w.heap.size 0 24 u (Array.replicate (Lib.nDigits u) 0) (w.alloc (.cells Lib.zeros24 32)) hH0 (by rw [Array.size_replicate]; exact Lib.lt_pow_nDigits u) hu64 (by rw [Array.size_replicate]; omega)
  rw [Array.size_replicate] at hfmt
  have HH0 := Lib.hid hH0
  have iu : (100 : Int) ≤ (u : Int) := by omega
  clear hH0 hal
  go_enter Ybad.func7, Ybad.ntmps7
  go_wp2_with (first
    | (go_at_call 9; refine (Any.internal_strconv_numDigits Ybad.laysM284 u hu1 hu64 _ (Lib.tabIs_alloc htab _)).mono ?_; rintro e w' ⟨rfl, rfl⟩))
  refine hfmt.mono ?_
  rintro e w' ⟨rfl, k, v', dk, rfl, hF⟩
  have hcells : ∀ j u', (Lib.byteCells (Lib.decDigits u))[j]? = some u' → ((putRow (fun (b : UInt8) => Value.int .u8 (b.toNat : Int)) (w.alloc (.cells Lib.zeros24 32)) w.heap.size 0 dk).drewN k).cell? ((⟨w.heap.size, 0, none⟩ : Addr).add j) = some u' := by
    intro j u' hj
    have hjl : j < (Lib.decDigits u).length := by
      have h5 := (List.getElem?_eq_some_iff.1 hj).1
      rwa [Lib.byteCells_length] at h5
    have e5 : (Lib.byteCells (Lib.decDigits u))[j]? = some (Value.int .u8 ((Lib.decDigits u)[j].toNat : Int)) := by simp [Lib.byteCells, hjl]
    rw [e5] at hj
    cases hj
    rw [Lib.row_is_numeral hF j hjl, Lib.add_plain, World.cell?_drewN]
    exact cell?_putRow (fun (b : UInt8) => Value.int .u8 (b.toNat : Int)) _ w.heap.size 0 _ dk HH0.out (by rw [hF.size, Array.size_replicate]) j (by rw [hF.size]; rw [Lib.decDigits_length] at hjl; exact hjl)
  obtain ⟨os, eo⟩ := Lib.fin_at w (.cells Lib.zeros24 32) dk k 0
  have hnx2 : Below w.heap.size w ((putRow (fun (b : UInt8) => Value.int .u8 (b.toNat : Int)) (w.alloc (.cells Lib.zeros24 32)) w.heap.size 0 dk).drewN k) := by rw [eo]; exact Lib.below_grow w.heap.size w (Nat.le_refl _) k os
  generalize (putRow (fun (b : UInt8) => Value.int .u8 (b.toNat : Int)) (w.alloc (.cells Lib.zeros24 32)) w.heap.size 0 dk).drewN k = W2 at hcells hnx2 ⊢
  have holds2 : ∀ j v, xs[j]? = some v → W2.cell? ((⟨g, 0, none⟩ : Addr).add j) = some v := fun j v hj => (hnx2.cell (by rw [Lib.add_plain]; exact hg)).trans (holds j v hj)
  clear eo HH0 hfmt holds
  go_wp2_with (at_builtin; refine wpList_append_grows _ rfl _ _ 22 rfl 5 i0 (.int .u8 0) 1 1 Ybad.underlying22 hi hz0 hz1 hz2 rfl (by decide) (some ⟨g, 0, none⟩) n n xs rfl (fun h => by cases h) (by omega) ?c1 ⟨w.heap.size, 0, none⟩ (Lib.nDigits u) 24 (Lib.byteCells (Lib.decDigits u)) rfl ?c0 hcells ?c2 ?c3 ?c4 ?c5 ?_)
  case c1 => intro b hb; cases hb; exact holds2
  case c0 => rw [Lib.byteCells_length, Lib.decDigits_length, Nat.mul_one]
  case c2 => intro u' hu'; simp only [Lib.byteCells, List.mem_map] at hu'; obtain ⟨b, _, rfl⟩ := hu'; rfl
  case c3 => omega
  case c4 => unfold maxLen; omega
  case c5 => omega
  intro v2 w3 hown' hgrow
  go_wp2
  go_ret
  refine ⟨v2, rfl, ?_, hnx2.grown hgrow hnx2.size (fun k hk => by cases hk)⟩
  rw [Lib.decDigits_length]
  exact ownsRow_base hown' hnx2.size

theorem au_any (g n u : Nat) (hu64 : u < 18446744073709551616) (xs : List Value) (w : World) (hlo : xs.length = n) (holds : ∀ j v, xs[j]? = some v → w.cell? ((⟨g, 0, none⟩ : Addr).add j) = some v) (hg : g < w.heap.size) (hlim : n ≤ 1000000)
    (htab : Lib.TabIs Ybad.prog w powName .u64 Lib.pow10Tab) :
    Calls Ybad.prog 7 #[.slice (some ⟨g, 0, none⟩) n n, .int .u64 u, .int .i64 10] w fun e w' => ∃ v', e = .returned v' ∧ w'.ownsRow w.heap.size 5 1 v' (n + (Lib.decDigits u).length) (xs ++ Lib.byteCells (Lib.decDigits u)) ∧ Below w.heap.size w w' := by
  by_cases h : u < 100
  · exact au_small g n u h xs w hlo holds hlim
  · exact au_big g n u (by omega) hu64 xs w hlo holds hg hlim htab

/-- strconv.AppendUint hands on. -/
theorem pub_any (g n u : Nat) (hu64 : u < 18446744073709551616) (xs : List Value) (w : World) (hlo : xs.length = n) (holds : ∀ j v, xs[j]? = some v → w.cell? ((⟨g, 0, none⟩ : Addr).add j) = some v) (hg : g < w.heap.size) (hlim : n ≤ 1000000)
    (htab : Lib.TabIs Ybad.prog w powName .u64 Lib.pow10Tab) :
    Calls Ybad.prog 6 #[.slice (some ⟨g, 0, none⟩) n n, .int .u64 u, .int .i64 10] w fun e w' => ∃ v', e = .returned v' ∧ w'.ownsRow w.heap.size 5 1 v' (n + (Lib.decDigits u).length) (xs ++ Lib.byteCells (Lib.decDigits u)) ∧ Below w.heap.size w w' := by
  go_enter Ybad.func6, Ybad.ntmps6
  go_wp2_with fail
  refine (au_any g n u hu64 xs w hlo holds hg hlim htab).mono ?_
  rintro e w' ⟨v', rfl, hown, hb⟩
  go_wp2
  go_ret
  exact ⟨v', rfl, hown, hb⟩

end Go.Proofs.YbulkcpveDoor
