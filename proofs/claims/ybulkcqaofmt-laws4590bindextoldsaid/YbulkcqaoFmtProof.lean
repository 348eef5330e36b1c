/-
  THE ROW OF 'LawS4590BIndex' OUT OF HER WALK, AND THE TOLD CARD. After the guide's worked HexbadTold, HexbadSeven.
-/
import Derived.Test.YbulkcqaoFmtLaw
import Derived.Test.YbulkcqaoFmtCards
import Derived.ProofKit
import Derived.OpenShut
import Derived.Carry
import Derived.Deep.Slices
import Derived.Lib.SmallJoins
import Derived.Stop.JoinedAt
import Derived.Stop.Texts
import Derived.Stop.JoinedTold
import Derived.SevenToldRow
namespace Go.Proofs.YbulkcqaoFmt
open Go.ChangeShapes Go.WideShapes Go.ChangeAt Go.RowKit Go.Kit
open Go.Extern.Stop Go.Stop Go.Extern

theorem own : ownKnob Ybaf.prog.godebug = none := by kernel_rfl
theorem cells31 : Ybaf.prog.cellsOf 31 = 4 := by kernel_rfl
theorem cells5 : Ybaf.prog.cellsOf 5 = 1 := by kernel_rfl
theorem cells3 : Ybaf.prog.cellsOf 3 = 1 := by kernel_rfl

theorem list4 {α : Type} {l : List α} (h : l.length = 4) : ∃ a b c d, l = [a, b, c, d] := by
  match l, h with
  | [a, b, c, d], _ => exact ⟨a, b, c, d, rfl⟩

/-- The argument, opened. -/
theorem steps_of {H : Type} {enc : TypeId × Value → H} {W : World} {a : Option Addr} {len cap : Nat} {d : DataW H} {p : List MemPlace} (h : DataW.Trod enc Ybaf.prog W 0 (fun _ => true) true 22 (.slice a len cap) d p) :
    ∃ ss : List Stp, ss.length = len ∧ StAt W a ss := by
  obtain ⟨fuel, hf⟩ := h
  rcases Go.Deep.open_slice Ybaf.underlying22 hf with ⟨hcs, _⟩ | ⟨ad, l, c, m, n, D, Pl, hcs, _, hlc, _, hm, _, hx⟩
  · simp [Value.cells] at hcs
    obtain ⟨rfl, rfl, rfl⟩ := hcs
    exact ⟨[], rfl, fun i s hs => by simp at hs⟩
  · simp [Value.cells] at hcs
    obtain ⟨rfl, rfl, rfl⟩ := hcs
    have hmc : m = cap := by simpa using hm
    subst hmc
    have hplain : 0 < len → ∃ b off, ad = ⟨b, off, none⟩ := fun hp => by
      obtain ⟨cs, hc, _⟩ := hx 0 (by omega)
      simp only [cells31] at hc
      obtain ⟨_, hlen, hcell⟩ := World.cells?_some hc
      have k0 := hcell 0 (by omega)
      rw [Go.Deep.add_add, List.getElem?_eq_getElem (by omega)] at k0
      obtain ⟨b, off, spot⟩ := ad
      have hspot : spot = none := by simpa [Addr.add] using World.cell?_spot k0
      subst hspot
      exact ⟨b, off, rfl⟩
    have one : ∀ i, i < len → ∃ x : Int × Int × Int × Int, (0 ≤ x.1 ∧ x.1 ≤ 255) ∧ (0 ≤ x.2.1 ∧ x.2.1 ≤ 255) ∧ (0 ≤ x.2.2.1 ∧ x.2.2.1 ≤ 255) ∧ ∃ b off, ad = ⟨b, off, none⟩ ∧ b < W.heap.size ∧
        W.cell? ⟨b, off + i * 4, none⟩ = some (.int .u8 x.1) ∧ W.cell? ⟨b, off + i * 4 + 1, none⟩ = some (.int .u8 x.2.1) ∧ W.cell? ⟨b, off + i * 4 + 2, none⟩ = some (.int .u8 x.2.2.1) ∧ W.cell? ⟨b, off + i * 4 + 3, none⟩ = some (.int .i64 x.2.2.2) := by
      intro i hi
      obtain ⟨cs, hc, ht⟩ := hx i (by omega)
      simp only [cells31] at hc
      obtain ⟨_, hlen, hcell⟩ := World.cells?_some hc
      obtain ⟨y0, y1, y2, y3, n', _, _, h0, h1, h2, h3⟩ := Go.Joins.trod_struct4 Ybaf.underlying31 ht
      obtain ⟨c0, c1, c2, c3, rfl⟩ := list4 hlen
      clear hc ht
      simp only [cells5, cells3, List.drop_zero, List.drop_succ_cons, List.take_succ_cons, List.take_zero] at h0 h1 h2 h3
      obtain ⟨x0, e0, _, w0⟩ := DataW.trod_int Ybaf.underlying5 h0
      obtain ⟨x1, e1, _, w1⟩ := DataW.trod_int Ybaf.underlying5 h1
      obtain ⟨x2, e2, _, w2⟩ := DataW.trod_int Ybaf.underlying5 h2
      obtain ⟨x3, e3, _, w3⟩ := DataW.trod_int Ybaf.underlying3 h3
      simp at e0 e1 e2 e3
      subst e0; subst e1; subst e2; subst e3
      have k0 := hcell 0 (by omega)
      have k1 := hcell 1 (by omega)
      have k2 := hcell 2 (by omega)
      have k3 := hcell 3 (by omega)
      rw [Go.Deep.add_add] at k0 k1 k2 k3
      obtain ⟨b, off, rfl⟩ := hplain (by omega)
      rw [add_plain] at k0 k1 k2 k3
      exact ⟨(x0, x1, x2, x3), bounds_u8 w0, bounds_u8 w1, bounds_u8 w2, b, off, rfl, World.block_lt_of_cell? W _ k0, by simpa using k0, by simpa [Nat.add_assoc] using k1, by simpa [Nat.add_assoc] using k2, by simpa [Nat.add_assoc] using k3⟩
    obtain ⟨f, hfx⟩ := Go.Deep.choose_lt one
    refine ⟨(List.range len).map fun i => ⟨(f i).1, (f i).2.1, (f i).2.2.1, (f i).2.2.2⟩, by simp, fun i s hs => ?_⟩
    have hi : i < len := by
      have := (List.getElem?_eq_some_iff.1 hs).1
      simpa using this
    simp [hi] at hs
    subst hs
    obtain ⟨q0, q1, q2, b, off, rfl, q3, q4, q5, q6, q7⟩ := hfx i hi
    exact ⟨q0, q1, q2, b, off, rfl, q3, q4, q5, q6, q7⟩

set_option maxRecDepth 20000 in
theorem law_long (w : World) (a : Option Addr) (len cap : Nat) (h : (1024 : Int) < (len : Int)) : Calls Ybaf.prog 3 #[.slice a len cap] w fun e w' => e = .returned (.bool true) ∧ Below w.heap.size w w' := by
  go_enter Ybaf.func3, Ybaf.ntmps3
  go_wp2
  go_ret
  exact ⟨rfl, Below.refl _ _⟩

set_option maxRecDepth 100000 in
theorem lifted (os : Os) (started : os.Started) (H : Type) (enc : TypeId × Value → H) :
    ReturnsInTold none {} Ybaf.checked os 3 .any Input.okWide ((OpenSpec.ofChange Rows.lawS4590BIndexSpec).preRow enc Ybaf.prog Ybaf.f3 [] false []) (fun F => ((OpenSpec.ofChange Rows.lawS4590BIndexSpec).at F).post enc Ybaf.prog Ybaf.f3 false true false false) (aloneAtReturn Ybaf.prog) nothingAlways := by
  refine returnsInTold_of_row (C := Ybaf.checked) (s := OpenSpec.ofChange Rows.lawS4590BIndexSpec) (by kernel_rfl) own started (by kernel_rfl) Ybaf.func3
    (OpenSpec.witness_stopped (enc := enc) (C := Ybaf.checked) false ⟨#[], #[.slice none 0 0], []⟩ 8 (by kernel_rfl) (by kernel_rfl) (by kernel_rfl) (by kernel_rfl)) ?_
  intro F W base args ds gs before _ _ hval0 hW _ _ _ _ _
  have hval : ∀ (j : Nat) t v, Ybaf.f3.params[j]? = some t → args[j]? = some v → Value.okWide Ybaf.prog W .any base t v := hval0
  have hW' := hW
  obtain ⟨p, q, hA0, hV, rfl, hfz, hnd⟩ := hW
  have hA : DataW.TrodAll enc Ybaf.prog W 0 (fun _ => true) true Ybaf.f3.params.toList args.toList ds p := hA0
  rw [Ybaf.params3] at hA hval
  obtain ⟨v0, d0, rfl, rfl, h0⟩ := trodAll_one hA
  obtain ⟨rfl, rfl⟩ := trodVars_none hV
  obtain ⟨a0, len0, cap0, rfl⟩ := okWide_slice Ybaf.underlying22 (hval 0 22 v0 rfl rfl)
  have k0 := h0
  have lt0 : ∀ x ∈ p, x.block < W.heap.size := by obtain ⟨m, hm⟩ := k0; exact DataW.trod_lt m _ _ _ hm
  obtain ⟨ss, rfl, hst⟩ := steps_of h0
  clear hA0 hval0
  have walk : Calls Ybaf.prog 3 #[.slice a0 ss.length cap0] W fun e w' => e = .returned (.bool true) ∧ Below W.heap.size W w' := by
    by_cases hl : ss.length ≤ 1024
    · exact law_c W a0 cap0 ss hst hl
    · exact law_long W a0 ss.length cap0 (by omega)
  refine walk.mono fun e W' ⟨he, bel⟩ => ?_
  subst he
  exact ⟨_, rfl, _, _, _, [], _, [], hW', trodAll_mk1 (shut_bool Ybaf.underlying4 _), trodAll_mk1 (Below.trod Ybaf.laidOut (by kernel_rfl) (of_decide_eq_true (by kernel_rfl)) k0 bel lt0), rfl, bel.frame _, fun h => by cases h⟩

theorem stops_eq : Ybaf.pinned.checked.prog.stops = ["fmt.Sprintf", "fmt.errorf"] := by kernel_rfl
theorem stopKnobs_eq : Ybaf.pinned.checked.prog.stopKnobs = [] := by kernel_rfl
theorem stop_quiet (os : Os) : Stop.quiet Ybaf.pinned.checked.prog os := by
  intro k hk
  rw [stopKnobs_eq] at hk
  cases hk

/-- THE TOLD CARD. -/
theorem proved : Rows.LawS4590BIndexToldSaid :=
  Claim7.holds_of_told_any 3 Ybaf.f3 "fmt.Sprintf" ["fmt.errorf"] [] _ _ _ (by kernel_rfl) rfl rfl rfl Ybaf.laidOut (by kernel_rfl) rfl ⟨rfl, rfl, rfl, rfl, rfl, rfl, rfl⟩ rfl rfl (by kernel_rfl) (by kernel_rfl) Ybaf.func3 (by kernel_rfl)
    (of_decide_eq_true (by kernel_rfl)) (of_decide_eq_true (by kernel_rfl)) stops_eq.symm rfl stopKnobs_eq.symm (by kernel_rfl)
    (by kernel_rfl) (by kernel_rfl) (by kernel_rfl) (by kernel_rfl) (by kernel_rfl) (by kernel_rfl) (by kernel_rfl) (by kernel_rfl) (by kernel_rfl) rfl (by kernel_rfl) rfl rfl
    rfl rfl
    rfl (by kernel_rfl) (by kernel_rfl) (by kernel_rfl) (by decide) (by kernel_rfl)
    (OpenClaim.moreEntering_of (by kernel_rfl) (by kernel_rfl) (by kernel_rfl) (by kernel_rfl) (by kernel_rfl) (by kernel_rfl) (by kernel_rfl) (by kernel_rfl) (by kernel_rfl) (by kernel_rfl))
    ⟨_, WideRow.started_initial, stop_quiet _⟩
    (fun os started _ H enc _ => lifted os started H enc)

#print axioms proved

end Go.Proofs.YbulkcqaoFmt
