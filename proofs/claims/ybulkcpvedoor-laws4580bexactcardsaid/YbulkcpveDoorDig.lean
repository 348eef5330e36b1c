/-
  THE WALK of '(Digest).append' (function 4), onto a slice that has no spare room.
-/
import Derived.Test.YbulkcpveDoorAu
namespace Go.Proofs.YbulkcpveDoor
open Go.RowKit Go.Sort

/-- What append puts behind dst. -/
def tail (u : Nat) (p1 p2 : ByteArray) : List Value := Lib.byteCells (Lib.decDigits u) ++ ([Value.int .u8 58] ++ (Lib.strCells p1 ++ ([Value.int .u8 58] ++ Lib.strCells p2)))

theorem one_new (w : World) (c : Value) (e : TypeId) : ∀ j u, ([c] : List Value)[j]? = some u → (w.alloc (.cells #[c] e)).cell? ((⟨w.heap.size, 0, none⟩ : Addr).add j) = some u := by
  intro j u hj
  match j, hj with
  | 0, hj => simp at hj; subst hj; simp [Addr.add]

set_option maxHeartbeats 3200000 in
set_option maxRecDepth 100000 in
theorem dig_any (u : Nat) (hu : u < 4294967296) (p1 p2 : ByteArray) (h1 : p1.size ≤ 1024) (h2 : p2.size ≤ 1024) (g n : Nat) (xs : List Value) (w : World) (hlo : xs.length = n)
    (holds : ∀ j v, xs[j]? = some v → w.cell? ((⟨g, 0, none⟩ : Addr).add j) = some v) (hg : g < w.heap.size) (hlim : n ≤ 1024) (htab : Lib.TabIs Ybad.prog w powName .u64 Lib.pow10Tab) :
    Calls Ybad.prog 4 #[.agg #[.int .u32 u, .string p1, .string p2], .slice (some ⟨g, 0, none⟩) n n] w fun e w' =>
      ∃ v' N, e = .returned v' ∧ w'.ownsRow (w.heap.size + 1) 5 1 v' N (xs ++ tail u p1 p2) ∧ Below w.heap.size w w' := by
  obtain ⟨i0, hi, hz0, hz1, hz2⟩ := info_parts Ybad.info5
  have hlen := digits_len u (by omega)
  have holds1 : ∀ o : Obj, ∀ j v, xs[j]? = some v → (w.alloc o).cell? ((⟨g, 0, none⟩ : Addr).add j) = some v := fun o j v hj => by
    rw [Lib.add_plain] at *
    exact (World.cell?_alloc_past _ _ _ hg).trans (by have := holds j v hj; rwa [Lib.add_plain] at this)
  have HH : Hid (∀ o : Obj, ∀ j v, xs[j]? = some v → (w.alloc o).cell? ((⟨g, 0, none⟩ : Addr).add j) = some v) := holds1
  have HT : Hid (Lib.TabIs Ybad.prog w powName .u64 Lib.pow10Tab) := htab
  clear holds holds1 htab
  go_enter Ybad.func4, Ybad.ntmps4
  go_wp2_with fail
  refine (pub_any g n u (by omega) xs _ hlo (HH.out _) (by simp; omega) (by omega) (Lib.tabIs_alloc HT.out _)).mono ?_
  rintro e w1 ⟨v1, rfl, hown1, hb1⟩
  simp only [World.size_alloc] at hown1 hb1
  have s1 := hb1.size
  simp only [World.size_alloc] at s1
  have q1 : w1.cell? ⟨w.heap.size, 1, none⟩ = some (.string p1) := (hb1.cell (by exact Nat.lt_succ_self _)).trans (by simp)
  have q2 : w1.cell? ⟨w.heap.size, 2, none⟩ = some (.string p2) := (hb1.cell (by exact Nat.lt_succ_self _)).trans (by simp)
  have bw1 : Below w.heap.size w w1 := ((Below.refl _ w).alloc (Nat.le_refl _) _).trans (hb1.mono (Nat.le_succ _))
  have HB1 := Lib.hid bw1
  clear hb1 bw1 HH HT
  go_wp2_with (first
    | (at_builtin; refine wpList_append_own _ rfl (.tmp 10) (.tmp 11) 22 rfl (w.heap.size + 1) 5 i0 (.int .u8 0) 1 1 Ybad.underlying22 hi hz0 hz1 hz2 rfl (by decide) _ _ _ rfl (hown1.alloc _) ⟨w1.heap.size, 0, none⟩ 1 1 [.int .u8 58] rfl rfl (one_new _ _ _) (by intro u hu; simp at hu; subst hu; rfl) (by unfold maxLen; omega) (by omega) (by simp; omega) ?_)
    | fail)
  intro v2 w2 hown2 hgrow2 _
  have b2 : Below (w.heap.size + 1) w1 w2 := ((Below.refl _ w1).alloc s1 _).grown hgrow2 (by simp; omega) (fun k hk => (hown1.lt k hk).1)
  have s2 := b2.size
  have q1' : w2.cell? ⟨w.heap.size, 1, none⟩ = some (.string p1) := (b2.cell (by exact Nat.lt_succ_self _)).trans q1
  have q2' : w2.cell? ⟨w.heap.size, 2, none⟩ = some (.string p2) := (b2.cell (by exact Nat.lt_succ_self _)).trans q2
  have HB2 := Lib.hid (HB1.out.trans (b2.mono (Nat.le_succ _)))
  clear b2 q1 q2 HB1 hgrow2 hown1
  go_wp2_with (first
    | (at_builtin; refine Lib.wpList_append_own_string _ rfl (.tmp 13) (.tmp 15) 22 9 rfl (w.heap.size + 1) 5 i0 Ybad.underlying22 Ybad.underlying9 hi hz0 hz1 hz2 _ _ _ rfl hown2 p1 rfl (by unfold maxLen; omega) (by omega) (by omega) ?_)
    | fail)
  intro v3 w3 hown3 hgrow3 _
  have b3 : Below (w.heap.size + 1) w2 w3 := (Below.refl _ w2).grown hgrow3 (by omega) (fun k hk => (hown2.lt k hk).1)
  have s3 := b3.size
  have q2 : w3.cell? ⟨w.heap.size, 2, none⟩ = some (.string p2) := (b3.cell (by exact Nat.lt_succ_self _)).trans q2'
  have HB3 := Lib.hid (HB2.out.trans (b3.mono (Nat.le_succ _)))
  clear b3 q1' q2' HB2 hgrow3 hown2
  go_wp2_with (first
    | (at_builtin; refine wpList_append_own _ rfl (.tmp 17) (.tmp 18) 22 rfl (w.heap.size + 1) 5 i0 (.int .u8 0) 1 1 Ybad.underlying22 hi hz0 hz1 hz2 rfl (by decide) _ _ _ rfl (hown3.alloc _) ⟨w3.heap.size, 0, none⟩ 1 1 [.int .u8 58] rfl rfl (one_new _ _ _) (by intro u hu; simp at hu; subst hu; rfl) (by unfold maxLen; omega) (by omega) (by simp; omega) ?_)
    | fail)
  intro v4 w4 hown4 hgrow4 _
  have b4 : Below (w.heap.size + 1) w3 w4 := ((Below.refl _ w3).alloc (by omega) _).grown hgrow4 (by simp; omega) (fun k hk => (hown3.lt k hk).1)
  have s4 := b4.size
  have q2' : w4.cell? ⟨w.heap.size, 2, none⟩ = some (.string p2) := (b4.cell (by exact Nat.lt_succ_self _)).trans q2
  have HB4 := Lib.hid (HB3.out.trans (b4.mono (Nat.le_succ _)))
  clear b4 q2 HB3 hgrow4 hown3
  go_wp2_with (first
    | (at_builtin; refine Lib.wpList_append_own_string _ rfl (.tmp 20) (.tmp 22) 22 9 rfl (w.heap.size + 1) 5 i0 Ybad.underlying22 Ybad.underlying9 hi hz0 hz1 hz2 _ _ _ rfl hown4 p2 rfl (by unfold maxLen; omega) (by omega) (by omega) ?_)
    | fail)
  intro v5 w5 hown5 hgrow5 _
  have b5 : Below (w.heap.size + 1) w4 w5 := (Below.refl _ w4).grown hgrow5 (by omega) (fun k hk => (hown4.lt k hk).1)
  go_wp2
  go_ret
  exact ⟨v5, n + (Lib.decDigits u).length + 1 + p1.size + 1 + p2.size, rfl, by simpa [tail] using hown5, HB4.out.trans (b5.mono (Nat.le_succ _))⟩
end Go.Proofs.YbulkcpveDoor
