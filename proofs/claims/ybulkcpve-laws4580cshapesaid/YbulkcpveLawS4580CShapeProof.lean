/-
  THE SHELL OF A PROOF OF 'Rows.LawS4580CShapeSaid' ('example.com/hollowcast/hollowcast/pkg/ctph.LawS4580CShape').
  THE WALK IS OURS. ALL ELSE IS THE GUIDE's TEMPLATE (howto/template/XProofs.lean) at this function's number and types: leave it.
-/
import Derived.Test.YbulkcpveRows
import Derived.WalkKit
import Derived.ProofKit
import Derived.OpenShut
import Derived.ShutString
import Derived.Test.YbulkcpveSub
namespace Go.Proofs.Ybulkcpve.lawS4580CShape
open Go.ChangeShapes Go.WideShapes Go.ChangeAt Go.RowKit
open Go.ChangeMaps (open_string shut_string)
set_option linter.unusedVariables false      -- a walk need not use every 'w<i>' (that an integer argument fits its kind)

theorem own : ownKnob Yba.prog.godebug = none := by kernel_rfl

/-! ### WHAT commonSubsequence ANSWERS AT THE LAW's FIVE PLACES -/
theorem sub_r (s t : ByteArray) (r : Int) (hr : Hid (r = (LS s t s.size t.size : Int))) (w : World) (hs : s.size ≤ 1024) (ht : t.size ≤ 1024) :
    Calls Yba.prog 14 #[.string s, .string t] w fun e w' => e = .returned (.int .i64 r) ∧ Hid (Grown w w') := by
  rw [hr.out]
  exact sub_any s t w (by omega) (by omega)
theorem sub_symm (s t : ByteArray) (r : Int) (hr : Hid (r = (LS s t s.size t.size : Int))) (w : World) (hs : s.size ≤ 1024) (ht : t.size ≤ 1024) :
    Calls Yba.prog 14 #[.string t, .string s] w fun e w' => e = .returned (.int .i64 r) ∧ Hid (Grown w w') := by
  have e : LS s t s.size t.size = LS t s t.size s.size := Lcs.L_symm _ _ _ _
  rw [hr.out, e]
  exact sub_any t s w (by omega) (by omega)
theorem sub_self (s : ByteArray) (w : World) (hs : s.size ≤ 1024) :
    Calls Yba.prog 14 #[.string s, .string s] w fun e w' => e = .returned (.int .i64 s.size) ∧ Hid (Grown w w') := by
  have e : LS s s s.size s.size = s.size := Lcs.L_self _ _
  refine (sub_any s s w (by omega) (by omega)).mono ?_
  rw [e]
  exact fun _ _ h => h
theorem sub_nil (s : ByteArray) (w : World) (hs : s.size ≤ 1024) :
    Calls Yba.prog 14 #[.string s, .string ⟨#[]⟩] w fun e w' => e = .returned (.int .i64 0) ∧ Hid (Grown w w') := by
  have e : LS s ⟨#[]⟩ s.size (⟨#[]⟩ : ByteArray).size = 0 := Lcs.L_at_zero _ _ _
  refine (sub_any s ⟨#[]⟩ w (by omega) (by decide)).mono ?_
  rw [e]
  exact fun _ _ h => h
theorem nil_sub (t : ByteArray) (w : World) (ht : t.size ≤ 1024) :
    Calls Yba.prog 14 #[.string ⟨#[]⟩, .string t] w fun e w' => e = .returned (.int .i64 0) ∧ Hid (Grown w w') := by
  have e : LS ⟨#[]⟩ t (⟨#[]⟩ : ByteArray).size t.size = 0 := Lcs.L_zero _ _ _
  refine (sub_any ⟨#[]⟩ t w (by decide) (by omega)).mono ?_
  rw [e]
  exact fun _ _ h => h

/-- 'string([]byte{c})'. -/
theorem conv_one (c : UInt8) (w : World) : (convert 22 9 (.slice (some ⟨w.heap.size, 0, none⟩) 1 1)).run Yba.prog (w.alloc (.cells #[.int .u8 c.toNat] 5)) = .ok (.string ⟨#[c]⟩) (w.alloc (.cells #[.int .u8 c.toNat] 5)) := by
  refine run_convert_bytes_back (P := Yba.prog) (w.alloc (.cells #[.int .u8 c.toNat] 5)) 22 9 5 ⟨w.heap.size, 0, none⟩ 1 [c] Yba.underlying22 Yba.underlying5 Yba.underlying9 (fun j hj => ?_)
  have e : j = 0 := by simpa using hj
  subst e
  simp [Addr.add]

theorem ch_app (s d : ByteArray) (i : Nat) (h : i < s.size) : ch s i = ch (s ++ d) i := by
  have h2 : i < (s ++ d).size := by simp; omega
  rw [ch_at s i h, ch_at (s ++ d) i h2, ByteArray.getElem_append_left h]
theorem ch_last (s : ByteArray) (c : UInt8) : ch (s ++ ⟨#[c]⟩) s.size = c.toNat := by
  have h2 : s.size < (s ++ (⟨#[c]⟩ : ByteArray)).size := by
    rw [ByteArray.size_append]
    exact Nat.lt_succ_self _
  rw [ch_at _ _ h2, ByteArray.getElem_append_right (Nat.le_refl _)]
  simp
  rfl

theorem LS_more (s t : ByteArray) (c : UInt8) (S T : ByteArray) (hS : S = s ++ (⟨#[c]⟩ : ByteArray)) (hT : T = t ++ (⟨#[c]⟩ : ByteArray)) :
    S.size = s.size + 1 ∧ T.size = t.size + 1 ∧ LS S T S.size T.size = LS s t s.size t.size + 1 := by
  have z : (⟨#[c]⟩ : ByteArray).size = 1 := rfl
  have zs : S.size = s.size + 1 := by rw [hS, ByteArray.size_append, z]
  have zt : T.size = t.size + 1 := by rw [hT, ByteArray.size_append, z]
  refine ⟨zs, zt, ?_⟩
  rw [zs, zt]
  unfold LS
  rw [Lcs.L_eq _ _ _ _ (by rw [hS, hT, ch_last, ch_last]), Lcs.L_congr (ch s) (ch t) (ch S) (ch T) s.size t.size (fun i hi => by rw [hS]; exact ch_app s _ i hi) (fun i hi => by rw [hT]; exact ch_app t _ i hi) _ _ (Nat.le_refl _) (Nat.le_refl _)]

theorem sub_more (s t : ByteArray) (c : UInt8) (r : Int) (hr : Hid (r = (LS s t s.size t.size : Int))) (w : World) (hs : s.size ≤ 1024) (ht : t.size ≤ 1024) :
    Calls Yba.prog 14 #[.string (s ++ (⟨#[c]⟩ : ByteArray)), .string (t ++ (⟨#[c]⟩ : ByteArray))] w fun e w' => e = .returned (.int .i64 (r + 1)) ∧ Hid (Grown w w') := by
  obtain ⟨S, hS⟩ : ∃ S, S = s ++ (⟨#[c]⟩ : ByteArray) := ⟨_, rfl⟩
  obtain ⟨T, hT⟩ : ∃ T, T = t ++ (⟨#[c]⟩ : ByteArray) := ⟨_, rfl⟩
  rw [← hS, ← hT]
  obtain ⟨zs, zt, e⟩ := LS_more s t c S T hS hT
  have e2 : r + 1 = (LS S T S.size T.size : Int) := by rw [e, hr.out]; omega
  rw [e2]
  exact sub_any S T w (by omega) (by omega)

/-! ### STEP 1: THE WALK: the Go text returns true. 'Grown w w'': the world has at most new blocks (Derived/RowKit3.lean). Part the cases AHEAD of 'go_enter' where a test parts the walk; take each callee by a contract of your own. -/
theorem walk (a0 : ByteArray) (a1 : ByteArray) (a2 : Int) (w0 : a0.size ≤ maxLen) (w1 : a1.size ≤ maxLen) (w2 : (Lit.int .u8 a2).wf = true) (w : World) :
    Calls Yba.prog 6 #[.string a0, .string a1, .int .u8 a2] w fun e w' => e = .returned (.bool true) ∧ Grown w w' := by
  by_cases h0 : a0.size ≤ 1024
  · by_cases h1 : a1.size ≤ 1024
    · have g0 : decide ((1024 : Int) < (a0.size : Int)) = false := decide_eq_false (by omega)
      have g1 : decide ((1024 : Int) < (a1.size : Int)) = false := decide_eq_false (by omega)
      have hb := LS_le a0 a1 a0.size a1.size
      have hb0 : (0 : Int) ≤ (LS a0 a1 a0.size a1.size : Int) := by omega
      obtain ⟨c, hc⟩ : ∃ c : UInt8, a2 = (c.toNat : Int) := by
        have := bounds_u8 w2
        exact ⟨UInt8.ofNat a2.toNat, by simp; omega⟩
      subst hc
      obtain ⟨r, hr⟩ : ∃ r : Int, r = (LS a0 a1 a0.size a1.size : Int) := ⟨_, rfl⟩
      rw [← hr] at hb hb0
      have HR : Hid (r = (LS a0 a1 a0.size a1.size : Int)) := hr
      clear hr
      obtain ⟨hb1, hb2⟩ := hb
      go_enter Yba.func6, Yba.ntmps6
      go_wp2_with fail
      refine (sub_r a0 a1 r HR w (by omega) (by omega)).mono ?_
      rintro e w1 ⟨rfl, HG1⟩
      go_wp2_with fail
      refine (sub_symm a0 a1 r HR w1 (by omega) (by omega)).mono ?_
      rintro e w2 ⟨rfl, HG2⟩
      go_wp2_with fail
      refine (sub_self a0 w2 (by omega)).mono ?_
      rintro e w3 ⟨rfl, HG3⟩
      go_wp2_with fail
      refine (sub_nil a0 w3 (by omega)).mono ?_
      rintro e w4 ⟨rfl, HG4⟩
      go_wp2_with fail
      refine (nil_sub a1 w4 (by omega)).mono ?_
      rintro e w5 ⟨rfl, HG5⟩
      have hcv := conv_one c w5
      go_wp2_with fail
      refine (sub_more a0 a1 c r HR _ (by omega) (by omega)).mono ?_
      rintro e w6 ⟨rfl, HG6⟩
      go_wp2
      go_ret
      exact ⟨rfl, ((((HG1.out.trans HG2.out).trans HG3.out).trans HG4.out).trans HG5.out).trans (((Grown.refl _).alloc _ _).trans HG6.out)⟩
    · have g0 : decide ((1024 : Int) < (a0.size : Int)) = false := decide_eq_false (by omega)
      have g1 : (1024 : Int) < (a1.size : Int) := by omega
      go_enter Yba.func6, Yba.ntmps6
      go_wp2
      go_ret
      exact ⟨rfl, Grown.refl _⟩
  · have g0 : (1024 : Int) < (a0.size : Int) := by omega
    go_enter Yba.func6, Yba.ntmps6
    go_wp2
    go_ret
    exact ⟨rfl, Grown.refl _⟩

/-! ### THE ROW's STEP: WRITTEN OUT: LEAVE IT -/
set_option maxRecDepth 100000 in
theorem lifted (os : Os) (started : os.Started) (H : Type) (enc : TypeId × Value → H) :
    ReturnsInHanded {} Yba.checked os 6 .any (Rows.lawS4580CShapeSpec.pre6 enc Yba.prog Yba.f6 Rows.lawS4580CShapeRow.domain false) (Rows.lawS4580CShapeSpec.post enc Yba.prog Yba.f6 false true false false) := by
  refine returnsInHanded_of_change (C := Yba.checked) own started (by kernel_rfl) Yba.func6
    (ChangeSpec.witness6 (enc := enc) (C := Yba.checked) false ⟨#[], #[.string ByteArray.empty, .string ByteArray.empty, .int .u8 0], []⟩ 8 (by kernel_rfl) (by kernel_rfl) (by kernel_rfl) (by kernel_rfl)) ?_
  intro W base args ds gs before hval0 hW hcnd _
  have hval : ∀ (j : Nat) t v, Yba.f6.params[j]? = some t → args[j]? = some v → Value.okWide Yba.prog W .any base t v := hval0
  have hW' := hW
  obtain ⟨p, q, hA0, hV, rfl, hfz, hnd⟩ := hW
  have hA : DataW.TrodAll enc Yba.prog W 0 (fun _ => true) true Yba.f6.params.toList args.toList ds p := hA0
  rw [Yba.params6] at hA hval
  obtain ⟨v0, vs0, d0, ds0, p0, q0, hargs, rfl, rfl, h0, r0⟩ := trodAll_cons hA
  obtain ⟨v1, vs1, d1, ds1, p1, q1, rfl, rfl, rfl, h1, r1⟩ := trodAll_cons r0
  obtain ⟨v2, vs2, d2, ds2, p2, q2, rfl, rfl, rfl, h2, r2⟩ := trodAll_cons r1
  obtain ⟨rfl, rfl, rfl⟩ := trodAll_nil r2
  obtain rfl : args = #[v0, v1, v2] := by cases args; simp_all
  obtain ⟨rfl, rfl⟩ := trodVars_none hV
  obtain ⟨a0, rfl, rfl, rfl, w0⟩ := open_string Yba.underlying9 (hval 0 9 v0 rfl rfl) h0
  obtain ⟨a1, rfl, rfl, rfl, w1⟩ := open_string Yba.underlying9 (hval 1 9 v1 rfl rfl) h1
  obtain ⟨a2, rfl, rfl, rfl, w2⟩ := open_int Yba.underlying5 (hval 2 5 v2 rfl rfl) h2
  clear hA0 hval0
  simp only [List.append_nil] at hW'
  refine (walk a0 a1 a2 w0 w1 w2 W).mono fun e W' ⟨he, hg⟩ => ?_
  subst he
  exact ⟨_, rfl, post_of_same (pa := []) (pv := []) hW' (fun _ _ _ => (trodAll_cons_mk (shut_bool Yba.underlying4 _) trodAll_mk0)) (fun sp _ => (trodAll_cons_mk (shut_string Yba.underlying9 w0) (trodAll_cons_mk (shut_string Yba.underlying9 w1) (trodAll_cons_mk (shut_int Yba.underlying5 w2) trodAll_mk0)))) (fun _ _ => rfl) rfl
    (hg.frame _) hg.2.1 (ok_one (by kernel_rfl) rfl (okWide_bool_mk Yba.underlying4 _))⟩

theorem over : Rows.lawS4580CShapeRow.holds Yba.pinned (OpenSpec.ofChange Rows.lawS4580CShapeSpec) :=
  OpenClaim.holds_of_wide 6 Yba.f6 rfl rfl rfl rfl rfl rfl rfl ⟨rfl, rfl, rfl, rfl, rfl⟩ rfl rfl rfl rfl rfl (by kernel_rfl) Yba.func6 (by kernel_rfl)
    (of_decide_eq_true (by kernel_rfl)) (by unfold Func.isWrapper; first | (rw [if_pos (by decide +kernel)]; kernel_rfl) | (rw [if_neg (by decide +kernel)]; exact ⟨rfl, rfl⟩))
    (fun os started H enc _ => lifted os started H enc)

/-- ████ THE STATEMENT ████ -/
theorem proved : Rows.LawS4580CShapeSaid :=
  over
#print axioms proved
end Go.Proofs.Ybulkcpve.lawS4580CShape
