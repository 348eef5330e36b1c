/-
  THE WALKS of 'zzs4590bproc' (function 6) and 'zzs4590bname' (function 7).
-/
import Derived.Test.YbulkcqaoFmtRows
import Derived.WalkKit
import Derived.ProofKit
import Derived.WalkLawsBesides
import Derived.BigQuiet
import Derived.Deep.QuietTactic
import Derived.Deep.OwnRows
import Derived.Laws.IdiomStrings
import Derived.Deep.AppendLies
namespace Go.Proofs.YbulkcqaoFmt
open Go.RowKit Go.Deep

theorem Ybaf.info5 : (Ybaf.prog.info? 5).map (fun i => (i.zero, i.size, i.bytes)) = some (some (.int .u8 0), 1, 1) := by kernel_rfl
theorem Ybaf.info3 : (Ybaf.prog.info? 3).map (fun i => (i.zero, i.size, i.bytes)) = some (some (.int .i64 0), 1, 8) := by kernel_rfl
theorem Ybaf.info9 : (Ybaf.prog.info? 9).map (fun i => (i.zero, i.size, i.bytes)) = some (some (.string ByteArray.empty), 1, 16) := by kernel_rfl
theorem Ybaf.info35 : (Ybaf.prog.info? 35).map (fun i => (i.zero, i.size, i.bytes)) = some (some (.agg #[.string ByteArray.empty, .int .i64 0, .string ByteArray.empty, .string ByteArray.empty, .int .i64 0]), 5, 64) := by kernel_rfl
theorem Ybaf.info37 : (Ybaf.prog.info? 37).map (fun i => (i.zero, i.size, i.bytes)) = some (some (.agg #[.int .i64 0, .int .i64 0, .slice none 0 0, .string ByteArray.empty]), 4, 56) := by kernel_rfl
theorem Ybaf.info43 : (Ybaf.prog.info? 43).map (fun i => (i.zero, i.size, i.bytes)) = some (some (.agg #[.int .i64 0, .string ByteArray.empty]), 2, 24) := by kernel_rfl

/-- 'zzs4590bproc'. -/
def proc (p : Nat) : ByteArray := if p = 0 then ⟨#[80]⟩ else if p = 1 then ⟨#[81]⟩ else ⟨#[82]⟩

theorem proc_c (p : Nat) (w : World) (hp : p < 3) : Calls Ybaf.prog 6 #[.int .i64 p] w fun e w' => e = .returned (.string (proc p)) ∧ w' = w := by
  have h : p = 0 ∨ p = 1 ∨ p = 2 := by omega
  rcases h with rfl | rfl | rfl
  all_goals
    go_enter Ybaf.func6, Ybaf.ntmps6
    go_wp2
    go_ret
    exact ⟨rfl, rfl⟩

theorem proc_inj (p q : Nat) (hp : p < 3) (hq : q < 3) (h : proc p = proc q) : p = q := by
  have h1 : p = 0 ∨ p = 1 ∨ p = 2 := by omega
  have h2 : q = 0 ∨ q = 1 ∨ q = 2 := by omega
  rcases h1 with rfl | rfl | rfl <;> rcases h2 with rfl | rfl | rfl <;> first | rfl | (exfalso; revert h; decide)

/-- The decimal digits of a number above zero; of zero none. -/
def digs (k : Nat) : List UInt8 := if _h : k = 0 then [] else digs (k / 10) ++ [UInt8.ofNat (48 + k % 10)]
theorem digs_zero : digs 0 = [] := by rw [digs, dif_pos rfl]
theorem digs_pos {k : Nat} (h : k ≠ 0) : digs k = digs (k / 10) ++ [UInt8.ofNat (48 + k % 10)] := by rw [digs, dif_neg h]
theorem digs_inj (k : Nat) : ∀ l, digs k = digs l → k = l := by
  induction k using Nat.strongRecOn with
  | _ k ih =>
    intro l h
    by_cases hk : k = 0
    · subst hk
      by_cases hl : l = 0
      · exact hl.symm
      · rw [digs_zero, digs_pos hl] at h
        exact absurd h.symm (by simp)
    · by_cases hl : l = 0
      · subst hl
        rw [digs_zero, digs_pos hk] at h
        exact absurd h (by simp)
      · rw [digs_pos hk, digs_pos hl] at h
        obtain ⟨h1, h2⟩ := List.append_inj' h rfl
        have e1 := ih (k / 10) (by omega) _ h1
        have e2 : UInt8.ofNat (48 + k % 10) = UInt8.ofNat (48 + l % 10) := by simpa using h2
        have e3 := congrArg UInt8.toNat e2
        simp only [UInt8.toNat_ofNat'] at e3
        omega

/-- 'zzs4590bname'. -/
def name (k : Nat) : ByteArray := if k = 0 then ⟨#[109, 48]⟩ else ⟨(109 :: digs k).toArray⟩
theorem name_inj (k l : Nat) (h : name k = name l) : k = l := by
  have hz : ∀ l, l ≠ 0 → digs l ≠ [48] := by
    intro l hl h
    have h' := h
    rw [digs_pos hl] at h
    have h1 : digs (l / 10) = [] ∧ UInt8.ofNat (48 + l % 10) = 48 := by
      cases hd : digs (l / 10) with
      | nil => rw [hd] at h; exact ⟨rfl, by simpa using h⟩
      | cons a r => rw [hd] at h; simp at h
    have h2 := digs_inj (l / 10) 0 (h1.1.trans digs_zero.symm)
    have h3 := congrArg UInt8.toNat h1.2
    simp only [UInt8.toNat_ofNat'] at h3
    have : (48 : UInt8).toNat = 48 := rfl
    omega
  have hd := congrArg (fun b : ByteArray => b.data.toList) h
  unfold name at hd
  by_cases hk : k = 0 <;> by_cases hl : l = 0
  · omega
  · rw [if_pos hk, if_neg hl] at hd
    exact absurd (by simpa using hd.symm) (hz l hl)
  · rw [if_neg hk, if_pos hl] at hd
    exact absurd (by simpa using hd) (hz k hk)
  · rw [if_neg hk, if_neg hl] at hd
    exact digs_inj k l (by simpa using hd)

/-- Bytes as cells. -/
def bcs (l : List UInt8) : List Value := l.map fun b => Value.int .u8 (b.toNat : Int)

/-- 'append([]byte{x}, d...)'. -/
theorem wpList_append_front (w : World) {ops : Array Oper} {rest : List Oper} {o : Oper} {a : Act} {Q : Exit → Act → World → Prop}
    (hg : o.guard = none) (s x : Operand) (hop : o.op = Op.call { callee := Callee.builtin Builtin.append, args := #[s, x], argTypes := #[49, 49] })
    (base g n : Nat) (b : UInt8) (xs : List UInt8) (d : Value) (hs : a.eval s = .slice (some ⟨g, 0, none⟩) 1 1) (hx : a.eval x = d)
    (hgb : base ≤ g) (hown0 : w.heap[g]? = some (.cells #[Value.int .u8 (b.toNat : Int)] 5 (0, 0))) (hown : w.ownsRow base 5 1 d n (bcs xs)) (hn : n ≤ 2000)
    (hK : ∀ v' w', w'.ownsRow base 5 1 v' (n + 1) (bcs (b :: xs)) → w.grownBy w' (some g) → wpList Ybaf.prog ops Q rest (a.put o.dst v') w') :
    wpList Ybaf.prog ops Q (o :: rest) a w := by
  obtain ⟨i0, hi, hz0, hz1, hz2⟩ := info_parts Ybaf.info5
  have ho1 : w.ownsRow base 5 1 (.slice (some ⟨g, 0, none⟩) 1 1) 1 [Value.int .u8 (b.toNat : Int)] := ⟨rfl, .inr ⟨g, 1, _, rfl, hgb, hown0, Nat.le_refl _, by decide, rfl, rfl⟩⟩
  have hbs : base ≤ w.heap.size := Nat.le_trans hgb (Nat.le_of_lt (Array.getElem?_eq_some_iff.1 hown0).1)
  refine wpList_plain hg fun K hK' => ?_
  rcases hown.2 with ⟨rfl, rfl⟩ | ⟨g', cap, cur, rfl, hb', hg', hnc, hcm, hcs, htake⟩
  · have hxs : xs = [] := by
      have := hown.1
      simp [bcs] at this
      exact this
    subst hxs
    have hrun := run_append_owned_none (P := Ybaf.prog) w base 49 o.type 5 i0 1 Ybaf.underlying49 hi _ 1 _ ho1
    unfold Oper.wp
    simp [execOp, hop, resolve, invoke, builtin, hs, hx, hrun, Result.andThen]
    exact hK' _ _ (hK _ w ho1 (World.grownBy.refl _ _))
  · obtain ⟨v', w', hrun, r1, r2, _⟩ := run_append_own (P := Ybaf.prog) w base 49 o.type 5 i0 (.int .u8 0) 1 1 Ybaf.underlying49 hi hz0 hz1 hz2 rfl (by decide) _ _ _ ho1 ⟨g', 0, none⟩ n cap (bcs xs) hown.1 (hown.cells rfl)
      (by intro u hu; obtain ⟨_, _, rfl⟩ := List.mem_map.1 hu; rfl) (by unfold maxLen; omega) (by omega) hbs
    unfold Oper.wp
    simp [execOp, hop, resolve, invoke, builtin, hs, hx, hrun, Result.andThen]
    exact hK' _ _ (hK _ w' (by rw [Nat.add_comm]; exact r1) r2)

theorem conv_back (w : World) (base n : Nat) (v : Value) (l : List UInt8) (h : w.ownsRow base 5 1 v n (bcs l)) (hn : 0 < n) : (convert 49 9 v).run Ybaf.prog w = .ok (.string ⟨l.toArray⟩) w := by
  have hl : l.length = n := by have := h.1; simpa [bcs] using this
  obtain ⟨g, cap, rfl, _, _⟩ := h.form hn
  subst hl
  refine run_convert_bytes_back w 49 9 5 _ cap l Ybaf.underlying49 Ybaf.underlying5 Ybaf.underlying9 (fun j hj => h.cells rfl j _ ?_)
  simp [bcs, List.getElem?_map, List.getElem?_eq_getElem hj]

theorem digit_byte (k : Nat) : ((UInt8.ofNat (48 + k % 10)).toNat : Int) = 48 + (k : Int) % 10 := by
  simp only [UInt8.toNat_ofNat']
  omega

set_option maxRecDepth 20000 in
set_option maxHeartbeats 1000000 in
theorem name_c (k : Nat) (w : World) (hk : k ≤ 1024) : Calls Ybaf.prog 7 #[.int .i64 k] w fun e w' => e = .returned (.string (name k)) ∧ Below w.heap.size w w' := by
  by_cases h0 : k = 0
  · subst h0
    go_enter Ybaf.func7, Ybaf.ntmps7
    go_wp2
    go_ret
    exact ⟨rfl, Below.refl _ _⟩
  · have hk0 : decide ((k : Int) ≤ 0) = false := decide_eq_false (by omega)
    obtain ⟨gw, hgw⟩ : ∃ gw, gw = w.heap.size := ⟨_, rfl⟩
    have HGw : Hid (gw = w.heap.size) := hgw
    clear hgw
    go_enter Ybaf.func7, Ybaf.ntmps7
    go_wp2
    go_loopw [0, 3] (fun i dv wr => ∃ (q n : Nat) (l : List UInt8), i = .int .i64 q ∧ q ≤ 1024 ∧ q + n ≤ 1024 ∧ Hid (digs k = digs q ++ l ∧ l.length = n) ∧ wr.ownsRow gw 5 1 dv n (bcs l) ∧ Below gw w wr) (fun i _ _ => (intOf i).toNat)
    case atStart => exact ⟨k, 0, [], rfl, hk, by omega, ⟨by simp, rfl⟩, World.ownsRow_nil _ _ _ _, by rw [HGw.out]; exact Below.refl _ _⟩
    case round =>
      obtain ⟨q, n, l, rfl, hq, hqn, HD, hown, hb⟩ := hrel
      have hsr := hb.size
      by_cases hq0 : q = 0
      · subst hq0
        have hln : 0 < n := by
          have := HD.out
          rw [digs_zero, List.nil_append] at this
          have h2 := congrArg List.length this.1
          rw [digs_pos h0] at h2
          simp at h2
          omega
        have hcb := conv_back wr gw n _ l hown hln
        have hll : ¬ (9223372036854775807 < 1 + l.length) := by have := HD.out.2; omega
        go_wp2
        go_ret
        refine ⟨?_, by rw [← HGw.out]; exact hb⟩
        have e1 := HD.out.1
        rw [digs_zero, List.nil_append] at e1
        unfold name
        rw [if_neg h0, e1]
        congr 2
      · have hq1 : (0 : Int) < (q : Int) := by omega
        obtain ⟨db, hdb⟩ : ∃ db : UInt8, db = UInt8.ofNat (48 + q % 10) := ⟨_, rfl⟩
        have HDB : Hid (db = UInt8.ofNat (48 + q % 10)) := hdb
        clear hdb
        go_wp2_with (first
          | (at_builtin; refine wpList_append_front _ rfl (.tmp 12) (.tmp 13) rfl gw wr.heap.size n db l _ rfl rfl ?b0 ?b1 (hown.alloc _) ?b2 ?_)
          | fail)
        case b0 => have := HGw.out; omega
        case b1 => rw [HDB.out, digit_byte]; exact heap_alloc_new _ _
        case b2 => omega
        intro v' w' hown' hgrow'
        have HB' : Hid (Below gw w w') := (hb.alloc (by have := HGw.out; omega) _).grown hgrow' (by have := HGw.out; simp; omega) (fun k hk => by cases hk; have := HGw.out; omega)
        have HO : Hid (w'.ownsRow gw 5 1 v' (n + 1) (bcs (db :: l))) := hown'
        have HL : Hid (digs k = digs (q / 10) ++ (db :: l) ∧ (db :: l).length = n + 1) := by
          have := HD.out
          refine ⟨?_, by simp [this.2]⟩
          rw [this.1, digs_pos hq0, HDB.out, List.append_assoc]
          rfl
        clear hown' hgrow' hown hb HD HDB
        go_wp2
        go_roundw
        case rel => exact ⟨q / 10, n + 1, db :: l, by simp, by omega, by omega, HL, HO.out, HB'.out⟩
        case measure => simp [intOf]; omega

end Go.Proofs.YbulkcqaoFmt
