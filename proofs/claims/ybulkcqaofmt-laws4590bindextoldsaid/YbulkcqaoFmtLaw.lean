/-
  THE WALK of 'LawS4590BIndex' (function 3).
-/
import Derived.Test.YbulkcqaoFmtInvL
namespace Go.Proofs.YbulkcqaoFmt
open Go.RowKit Go.Deep Go.Maps Go.WideMaps

/-- A step of the script. -/
structure Stp where
  op : Int
  p : Int
  m : Int
  l : Int

/-- The steps lie in memory. -/
def StAt (w : World) (a : Option Addr) (ss : List Stp) : Prop :=
  ∀ (i : Nat) (s : Stp), ss[i]? = some s → (0 ≤ s.op ∧ s.op ≤ 255) ∧ (0 ≤ s.p ∧ s.p ≤ 255) ∧ (0 ≤ s.m ∧ s.m ≤ 255) ∧ ∃ b off, a = some ⟨b, off, none⟩ ∧ b < w.heap.size ∧
    w.cell? ⟨b, off + i * 4, none⟩ = some (.int .u8 s.op) ∧ w.cell? ⟨b, off + i * 4 + 1, none⟩ = some (.int .u8 s.p) ∧ w.cell? ⟨b, off + i * 4 + 2, none⟩ = some (.int .u8 s.m) ∧ w.cell? ⟨b, off + i * 4 + 3, none⟩ = some (.int .i64 s.l)

theorem below_grown {W w' : World} (h : Below W.heap.size W w') : W.grownBy w' none := ⟨h.os, h.tape, h.output, h.size, fun k hk _ => h.block k hk⟩

theorem owns_slice {w : World} {base : Nat} {e : TypeId} {size n : Nat} {v : Value} {xs : List Value} (h : w.ownsRow base e size v n xs) : ∃ ao cp, v = .slice ao n cp := by
  rcases h.2 with ⟨rfl, rfl⟩ | ⟨g, cap, _, rfl, _⟩
  · exact ⟨none, 0, rfl⟩
  · exact ⟨some ⟨g, 0, none⟩, cap, rfl⟩

theorem own_cell {w : World} {base : Nat} {e : TypeId} {size n g cp : Nat} {xs : List Value} (h : w.ownsRow base e size (.slice (some ⟨g, 0, none⟩) n cp) n xs) {j : Nat} {u : Value} (hu : xs[j]? = some u) : w.cell? ⟨g, j, none⟩ = some u := by
  have := h.cells (g := g) rfl j u hu
  rwa [WideShapes.add_plain, Nat.zero_add] at this

/-- 'len(msgs)', for the walk. -/
theorem wpList_len_msgs (w : World) {ops : Array Oper} {rest : List Oper} {o : Oper} {a : Act} {Q : Exit → Act → World → Prop} (hg : o.guard = none) (x : Operand) (hop : o.op = Op.call { callee := Callee.builtin Builtin.len, args := #[x], argTypes := #[38] })
    (M c n : Nat) (bs : List Nat) (hx : a.eval x = .map (some M)) (h : PMap w M c bs) (hn : bs.length = n) (hK : wpList Ybaf.prog ops Q rest (a.put o.dst (.int .i64 n)) w) : wpList Ybaf.prog ops Q (o :: rest) a w := by
  refine wpList_plain hg fun K' hK' => ?_
  have hrun := h.len o.type
  rw [hn] at hrun
  unfold Oper.wp
  simp [execOp, hop, resolve, invoke, builtin, hx, hrun, Result.andThen]
  exact hK' _ _ hK

/-- The events that the law has built lie in memory. -/
theorem evAt {w : World} {base : Nat} {ev : Value} {evs : List Ev} (h : w.ownsRow base 35 5 ev evs.length (ec evs)) : EvAt w ev evs := by
  rcases h.2 with ⟨rfl, h0⟩ | ⟨g, cap, cur, rfl, _, hg, _⟩
  · refine ⟨none, 0, by rw [h0], fun i e he => ?_⟩
    have : evs = [] := List.eq_nil_of_length_eq_zero h0
    subst this
    simp at he
  · refine ⟨some ⟨g, 0, none⟩, cap, rfl, fun i e he => ⟨g, rfl, (Array.getElem?_eq_some_iff.1 hg).1, fun f v hv => own_cell h ?_⟩⟩
    have hf : f < 5 := (List.getElem?_eq_some_iff.1 hv).1
    rw [ec_at he f hf]
    exact hv

theorem evC_one (e : Ev) : ∀ u ∈ evC e, u.oneCell' = true := by
  intro u hu
  simp only [evC, List.mem_cons, List.not_mem_nil, or_false] at hu
  rcases hu with rfl | rfl | rfl | rfl | rfl <;> rfl

set_option maxRecDepth 20000 in
set_option maxHeartbeats 2000000 in
theorem law_c (w : World) (a : Option Addr) (cap : Nat) (ss : List Stp) (hst : StAt w a ss) (hn : ss.length ≤ 1024) :
    Calls Ybaf.prog 3 #[.slice a ss.length cap] w fun e w' => e = .returned (.bool true) ∧ Below w.heap.size w w' := by
  obtain ⟨base, hbase⟩ : ∃ base, base = w.heap.size := ⟨_, rfl⟩
  have HB : Hid (base = w.heap.size) := hbase
  have HS : Hid (StAt w a ss) := hst
  have hn' : decide ((1024 : Int) < (ss.length : Int)) = false := decide_eq_false (by omega)
  clear hst
  go_enter Ybaf.func3, Ybaf.ntmps3
  go_wp2
  rw [← hbase]
  clear hbase
  go_loopg [3, 4, 5, 26] ss.length (fun g sv ev pv iv wr => ∃ (i : Nat) (evs : List Ev) (rvs : List Value) (hc mc : Array Value), i + g = ss.length ∧ evs.length = i ∧ iv = .int .i64 i ∧ Hid (Wf evs) ∧ Hid (I3 w wr base (run evs) evs sv ev pv rvs hc mc))
  case atStart =>
    refine ⟨0, [], [], #[.bool false, .bool false, .bool false, .bool false, .bool false, .bool false, .bool false, .bool false, .bool false], #[.int .i64 0, .int .i64 0, .int .i64 0, .int .i64 0, .int .i64 0, .int .i64 0, .int .i64 0, .int .i64 0, .int .i64 0], by omega, rfl, rfl, Wf.nil, ?_⟩
    show I3 _ _ _ _ _ _ _ _ _ _ _
    rw [HB.out]
    refine ⟨Good.start, ((Below.refl _ w).alloc (Nat.le_refl _) _).alloc (by simp) _, by simp, ?_, rfl, fun a b ha hb => ?_, ?_, rfl, fun a b ha hb => ⟨0, ?_, fun k hk => by cases hk⟩, World.ownsRow_nil _ _ _ _, World.ownsRow_nil _ _ _ _, ?_⟩
    · exact (Below.heap_alloc _ _ _ (by simp)).trans (heap_alloc_new _ _)
    · have h1 : a = 0 ∨ a = 1 ∨ a = 2 := by omega
      have h2 : b = 0 ∨ b = 1 ∨ b = 2 := by omega
      rcases h1 with rfl | rfl | rfl <;> rcases h2 with rfl | rfl | rfl <;> rfl
    · have := heap_alloc_new (w.alloc (.cells #[.bool false, .bool false, .bool false, .bool false, .bool false, .bool false, .bool false, .bool false, .bool false] 27)) (.cells #[.int .i64 0, .int .i64 0, .int .i64 0, .int .i64 0, .int .i64 0, .int .i64 0, .int .i64 0, .int .i64 0, .int .i64 0] 29)
      rw [World.size_alloc] at this
      exact this
    · have h1 : a = 0 ∨ a = 1 ∨ a = 2 := by omega
      have h2 : b = 0 ∨ b = 1 ∨ b = 2 := by omega
      rcases h1 with rfl | rfl | rfl <;> rcases h2 with rfl | rfl | rfl <;> rfl
    · refine ⟨rfl, fun j v xs hv hx => ?_, fun i j v v' g hi hj => ?_⟩
      · cases j with
        | zero => simp at hv hx; subst hv; subst hx; exact World.ownsRow_nil _ _ _ _
        | succ j => simp at hv
      · cases i with
        | zero => cases j with
          | zero => intros; rfl
          | succ j => simp at hj
        | succ i => simp at hi
  case round =>
    obtain ⟨i, evs, rvs, hc, mc, hig, hel, rfl, HW, HI⟩ := hrel
    subst hel
    obtain ⟨N, hN⟩ : ∃ N, N = (run evs).sends.length := ⟨_, rfl⟩
    obtain ⟨sa, scp, hsv⟩ := owns_slice HI.out.sends
    rw [← hN] at hsv
    subst hsv
    have hnl : N ≤ 1024 := by have := sends_le evs; omega
    have HN : Hid (N = (run evs).sends.length) := hN
    clear hN
    cases gk with
    | zero =>
      have hz : ¬ ((evs.length : Int) < (ss.length : Int)) := by omega
      have hN8 : evs.length ≤ 1024 := by omega
      have HE : Hid (EvAt wr u4 evs) := evAt HI.out.events
      obtain ⟨pa, pcp, rfl⟩ := owns_slice HI.out.prow
      clear HS
      go_upto_region 33 with (first | (go_at_call 8; refine (idx_c _ _ evs HW.out HE.out hN8).mono ?_; rintro e w8 ⟨pv8, bs, rvs8, ts, rfl, h8⟩) | fail)
      obtain ⟨M8, hM8⟩ : ∃ M8, M8 = wr.heap.size := ⟨_, rfl⟩
      obtain ⟨NP, hNP⟩ : ∃ NP, NP = (run evs).probs.length := ⟨_, rfl⟩
      obtain ⟨a8, c8, hpv8⟩ := owns_slice h8.probs
      rw [← hNP] at hpv8
      subst hpv8
      have H9 : Hid (I3 w w8 base (run evs) evs (.slice sa N scp) u4 (.slice pa NP pcp) rvs hc mc) := by
        have := HI.out.new (below_grown h8.below)
        rw [← hNP] at this
        exact this
      have H8 : Hid (I8 wr w8 M8 evs.length (run evs) (.slice a8 NP c8) bs rvs8 ts) := by rw [hM8]; exact h8
      have HNP : Hid (NP = (run evs).probs.length) := hNP
      rw [← hM8, ← hNP]
      clear h8 hNP hM8 HI HE hz
      have hbn : bs.length = N := by rw [HN.out]; exact H8.out.lenb
      have hnp : NP ≤ 1024 := by have := probs_le evs; have := HNP.out; omega
      go_wp2_with (first
        | (at_len; refine wpList_len_msgs _ rfl (.tmp 159) rfl M8 evs.length N bs rfl H8.out.msgs hbn ?_)
        | fail)
      go_loopg [173] NP (fun g iv wx => ∃ (i d : Nat), i + g = NP ∧ iv = .int .i64 i ∧ wx = w8.drewN d)
      case atStart => exact ⟨0, 0, by omega, rfl, rfl⟩
      case round =>
        obtain ⟨i, d, hig2, rfl, rfl⟩ := hrel
        cases gk with
        | succ g =>
          have hlt2 : (i : Int) < (NP : Int) := by omega
          have hge2 : (0 : Int) ≤ (i : Int) := Int.natCast_nonneg _
          obtain ⟨l, hl⟩ : ∃ l, (run evs).probs[i]? = some l := ⟨_, List.getElem?_eq_getElem (by rw [← HNP.out]; omega)⟩
          have HP9 := H9.out.prow
          have HP8 := H8.out.probs
          rw [← HNP.out] at HP9 HP8
          obtain ⟨g5, cp5, e5, _, _⟩ := HP9.form (by omega)
          obtain ⟨g8, cp8, e8, _, _⟩ := HP8.form (by omega)
          cases e5
          cases e8
          have q5 : w8.cell? ⟨g5, i, none⟩ = some (.int .i64 l) := own_cell HP9 (by simp [ints, hl])
          have q8 : w8.cell? ⟨g8, i * 2, none⟩ = some (.int .i64 l) := own_cell HP8 (pc_at H8.out.tlen hl)
          clear HP9 HP8
          go_wp2_with fail
          go_quiet (fail)
          go_wp2
          go_roundg g
          case rel => exact ⟨i + 1, d + nq, by omega, rfl, by simp⟩
          case measure => omega
        | zero =>
          have hz2 : ¬ ((i : Int) < (NP : Int)) := by omega
          go_wp2
          go_loopg [189] N (fun g iv wx => ∃ (i d : Nat), i + g = N ∧ iv = .int .i64 i ∧ wx = w8.drewN d)
          case atStart => exact ⟨0, d, by omega, rfl, rfl⟩
          case round =>
            clear hz2 hig2
            obtain ⟨i, d, hig3, rfl, hwx⟩ := hrel
            cases gk with
            | zero =>
              have hz3 : ¬ ((i : Int) < (N : Int)) := by omega
              go_wp2
              go_ret
              have hb := H9.out.below
              rw [HB.out] at hb
              exact ⟨rfl, ⟨hb.os, hb.tape, hb.output, hb.size, hb.block⟩⟩
            | succ g =>
              have HWX : Hid (wr = w8.drewN d) := hwx
              have hlt3 : (i : Int) < (N : Int) := by omega
              have hge3 : (0 : Int) ≤ (i : Int) := Int.natCast_nonneg _
              have hi1024 : i ≤ 1024 := by omega
              obtain ⟨m, hm⟩ : ∃ m, (run evs).sends[i]? = some m := ⟨_, List.getElem?_eq_getElem (by rw [← HN.out]; omega)⟩
              have hm3 := (H9.out.good.p i m hm).1
              have hgw : w8.grownBy wr none := by rw [hwx]; exact grown_drewN _ _ _
              have J9 : Hid (I3 w wr base (run evs) evs (.slice sa N scp) u4 (.slice pa NP pcp) rvs hc mc) := H9.out.new hgw
              have J8 : Hid (I8 _ wr M8 evs.length (run evs) (.slice a8 NP c8) bs rvs8 ts) := H8.out.new hgw
              clear hwx hgw
              obtain ⟨rv, hrv, hrow⟩ := J9.out.at hm
              obtain ⟨b, rv8, hb8, hrv8, _, hbox8, hrow8⟩ := J8.out.at hm
              have HO9 : Hid (wr.ownsRow base 37 4 (.slice sa N scp) N (sc 0 (run evs).sends rvs)) := by
                have := J9.out.sends
                rw [← HN.out] at this
                exact this
              obtain ⟨gs, cps, es, _, _⟩ := HO9.out.form (by omega)
              cases es
              have q0 : wr.cell? ⟨gs, i * 4, none⟩ = some (.int .i64 m.p) := own_cell HO9.out (by have := sc_at (k := 0) hm hrv 0 (by omega); simpa using this)
              have q1 : wr.cell? ⟨gs, i * 4 + 1, none⟩ = some (.int .i64 m.line) := own_cell HO9.out (by have := sc_at (k := 0) hm hrv 1 (by omega); simpa using this)
              have q2 : wr.cell? ⟨gs, i * 4 + 2, none⟩ = some rv := own_cell HO9.out (by have := sc_at (k := 0) hm hrv 2 (by omega); simpa using this)
              have q3 : wr.cell? ⟨gs, i * 4 + 3, none⟩ = some (.string (name i)) := own_cell HO9.out (by have := sc_at (k := 0) hm hrv 3 (by omega); simpa using this)
              have p0 : wr.cell? ⟨b, 0, none⟩ = some (.string (proc m.p)) := cell_of_row wr b 0 _ _ _ hbox8
              have p1 : wr.cell? ⟨b, 1, none⟩ = some (.int .i64 m.line) := cell_of_row wr b 1 _ _ _ hbox8
              have p2 : wr.cell? ⟨b, 2, none⟩ = some rv8 := cell_of_row wr b 2 _ _ _ hbox8
              have hlk := J8.out.msgs.look hi1024 hb8
              obtain ⟨R, hR⟩ : ∃ R, R = m.recv.length := ⟨_, rfl⟩
              rw [← hR] at hrow hrow8
              obtain ⟨ra, rcp, rfl⟩ := owns_slice hrow
              obtain ⟨ra8, rcp8, rfl⟩ := owns_slice hrow8
              have HRW : Hid (wr.ownsRow base 3 1 (.slice ra R rcp) R (nats m.recv)) := hrow
              have HRW8 : Hid (wr.ownsRow M8 9 1 (.slice ra8 R rcp8) R (rs m.recv)) := hrow8
              have HR : Hid (R = m.recv.length) := hR
              have hR1 : R ≤ 1024 := by have := recv_le evs hm; omega
              clear hrow hrow8 hR hbox8 hrv8
              go_wp2_with fail
              go_quiet ((go_at_call 6; exact Calls.quiet_of_same (proc_c m.p _ hm3)))
              go_wp2
              obtain ⟨w3, hw3⟩ : ∃ w3, w3 = wr := ⟨_, rfl⟩
              have HW3 : Hid (w3 = w8.drewN d) := hw3.trans HWX.out
              have HRV : Hid (w3.ownsRow base 3 1 (.slice ra R rcp) R (nats m.recv)) := by rw [hw3]; exact HRW.out
              have HRV8 : Hid (w3.ownsRow M8 9 1 (.slice ra8 R rcp8) R (rs m.recv)) := by rw [hw3]; exact HRW8.out
              have s2 : w3.cell? ⟨gs, i * 4 + 2, none⟩ = some (.slice ra R rcp) := by rw [hw3]; exact q2
              have s8 : w3.cell? ⟨b, 2, none⟩ = some (.slice ra8 R rcp8) := by rw [hw3]; exact p2
              rw [← hw3]
              clear hw3 q0 q1 q2 q3 p0 p1 p2 hlk HRW HRW8
              go_loopg [244] R (fun g jv wx => ∃ (j d : Nat), j + g = R ∧ jv = .int .i64 j ∧ wx = w3.drewN d)
              case atStart => exact ⟨0, _, by omega, rfl, rfl⟩
              case round =>
                obtain ⟨j, d2, hig4, rfl, hwy⟩ := hrel
                cases gk with
                | zero =>
                  have hz4 : ¬ ((j : Int) < (R : Int)) := by omega
                  have HWY : Hid (wr = w8.drewN (d + d2)) := by
                    show wr = _
                    rw [hwy, HW3.out]
                    exact World.drewN_drewN _ _ _
                  clear hwy
                  go_wp2
                  go_roundg g
                  case rel => exact ⟨i + 1, d + d2, by omega, rfl, HWY.out⟩
                  case measure => omega
                | succ g4 =>
                  have HWY : Hid (wr = w3.drewN d2) := hwy
                  have hlt4 : (j : Int) < (R : Int) := by omega
                  have hge4 : (0 : Int) ≤ (j : Int) := Int.natCast_nonneg _
                  obtain ⟨q, hq⟩ : ∃ q, m.recv[j]? = some q := ⟨_, List.getElem?_eq_getElem (by rw [← HR.out]; omega)⟩
                  have hq3 : q < 3 := (H9.out.good.p i m hm).2 q (List.mem_of_getElem? hq)
                  obtain ⟨gr, cr, er, _, _⟩ := HRV.out.form (by omega)
                  obtain ⟨gr8, cr8, er8, _, _⟩ := HRV8.out.form (by omega)
                  cases er
                  cases er8
                  have v0 : wr.cell? ⟨gr, j, none⟩ = some (.int .i64 q) := by rw [hwy]; exact own_cell HRV.out (by simp [nats, hq])
                  have v8 : wr.cell? ⟨gr8, j, none⟩ = some (.string (proc q)) := by rw [hwy]; exact own_cell HRV8.out (by simp [rs, hq])
                  have v2 : wr.cell? ⟨gs, i * 4 + 2, none⟩ = some (.slice (some ⟨gr, 0, none⟩) R rcp) := by rw [hwy]; exact s2
                  have v28 : wr.cell? ⟨b, 2, none⟩ = some (.slice (some ⟨gr8, 0, none⟩) R rcp8) := by rw [hwy]; exact s8
                  clear hwy s2 s8
                  go_wp2_with fail
                  go_quiet ((go_at_call 6; exact Calls.quiet_of_same (proc_c q _ hq3)))
                  go_wp2
                  go_roundg g4
                  case rel => exact ⟨j + 1, d2 + nq, by omega, rfl, by rw [HWY.out]; exact World.drewN_drewN _ _ _⟩
                  case measure => omega
    | succ g =>
      have hlt : (evs.length : Int) < (ss.length : Int) := by omega
      obtain ⟨s, hs⟩ : ∃ s, ss[evs.length]? = some s := ⟨_, List.getElem?_eq_getElem (by omega)⟩
      obtain ⟨ho, hp, hm, b0, off, rfl, hb0, c0, c1, c2, c3⟩ := HS.out evs.length s hs
      have hbl := HI.out.below
      have c0 : wr.cell? ⟨b0, off + evs.length * 4, none⟩ = some (.int .u8 s.op) := (hbl.cell (by rw [HB.out]; exact hb0)).trans c0
      have c1 : wr.cell? ⟨b0, off + evs.length * 4 + 1, none⟩ = some (.int .u8 s.p) := (hbl.cell (by rw [HB.out]; exact hb0)).trans c1
      have c2 : wr.cell? ⟨b0, off + evs.length * 4 + 2, none⟩ = some (.int .u8 s.m) := (hbl.cell (by rw [HB.out]; exact hb0)).trans c2
      have c3 : wr.cell? ⟨b0, off + evs.length * 4 + 3, none⟩ = some (.int .i64 s.l) := (hbl.cell (by rw [HB.out]; exact hb0)).trans c3
      clear hbl HS
      obtain ⟨P, hP, hP3⟩ : ∃ P : Nat, s.p % 3 = (P : Int) ∧ P < 3 := ⟨(s.p % 3).toNat, by omega, by omega⟩
      obtain ⟨K, hK, hK3⟩ : ∃ K : Nat, s.op % 3 = (K : Int) ∧ K < 3 := ⟨(s.op % 3).toNat, by omega, by omega⟩
      go_upto_region 14 with fail
      obtain ⟨B9, hB9⟩ : ∃ B9, B9 = wr.heap.size := ⟨_, rfl⟩
      obtain ⟨W1, hW1⟩ : ∃ W1, W1 = (wr.alloc (.cells #[.int .u8 s.op, .int .u8 s.p, .int .u8 s.m, .int .i64 s.l] 31)) := ⟨_, rfl⟩
      have HI1 : Hid (I3 w W1 base (run evs) evs (.slice sa N scp) u4 u5 rvs hc mc) := by rw [hW1]; exact HI.out.new (World.grownBy_alloc _ _ _)
      have H91 : W1.heap[B9]? = some (.cells #[.int .u8 s.op, .int .u8 s.p, .int .u8 s.m, .int .i64 s.l] 31 (0, 0)) := by rw [hW1, hB9]; exact heap_alloc_new _ _
      rw [← hW1, ← hB9]
      simp only [hP, hK]
      clear c0 c1 c2 c3 HI hB9 hW1
      have t92 : W1.cell? ⟨B9, 2, none⟩ = some (.int .u8 s.m) := cell_of_row W1 B9 2 _ _ _ H91
      have t93 : W1.cell? ⟨B9, 3, none⟩ = some (.int .i64 s.l) := cell_of_row W1 B9 3 _ _ _ H91
      have l9 : B9 < W1.heap.size := World.block_lt_of_cell? W1 _ t93
      have hs1 := HI1.out.size
      have f4 : u4.ownBlock ≠ some B9 := owns_far HI1.out.events H91 (by decide)
      by_cases hk0 : K = 0
      · subst hk0
        go_wp2_with fail
        obtain ⟨i0, hi0, hz0, hz1, hz2⟩ := info_parts Ybaf.info35
        go_region_held3 (fun w' => w'.cell? ⟨B9, 3, none⟩ = some (.int .i64 s.l))
          (first
            | go_keep
            | (rw [hgrow.cell_far _ (by simp; omega) (Ne.symm f4)]; assumption))
          (first
            | (go_at_call 6; refine (proc_c P _ hP3).mono ?_; rintro e w' ⟨rfl, rfl⟩)
            | (refine step_append_lies _ (by rfl) (.tmp 123) (.tmp 129) 24 (by rfl) base 35 i0 _ 5 64 Ybaf.underlying24 hi0 hz0 hz1 hz2 rfl (by decide) u4 evs.length (ec evs) (by rfl) ((HI1.out.events.alloc _).drew) ⟨W1.heap.size, 0, none⟩ 1 1 (evC ⟨P, 0, 0, s.l⟩) (by rfl) (by rfl) (World.news_of_block (cs := (evC ⟨P, 0, 0, s.l⟩).toArray) (t := 35) (fr := (0, 0)) (heap_alloc_new W1 _)) (evC_one _) (by decide) (by unfold maxLen; omega) (by omega) (by simp; omega) (W1.heap.size + 1) (by simp) ?_; intro gg cc w1 hown1 hgrow hat hlt1)
            | fail)
        have HI2 : Hid (I3 w w1 base (run (evs ++ [⟨P, 0, 0, s.l⟩])) (evs ++ [⟨P, 0, 0, s.l⟩]) (.slice sa N scp) (.slice (some ⟨gg, 0, none⟩) (evs.length + 1) cc) u5 rvs hc mc) := by
          show I3 _ _ _ _ _ _ _ _ _ _ _
          rw [run_snoc, upd_kind0 rfl]
          exact (HI1.out.new ((World.grownBy_alloc _ _ _).trans (grown_drew _ _))).event hgrow hown1
        have HW2 : Hid (Wf (evs ++ [⟨P, 0, 0, s.l⟩])) := HW.out.snoc ⟨hP3, .inl rfl⟩
        clear hown1 hgrow hat hlt1 HI1 HW t92 t93 H91
        go_wp2
        go_roundg g
        case rel => exact ⟨evs.length + 1, evs ++ [⟨P, 0, 0, s.l⟩], rvs, hc, mc, by omega, by simp, rfl, HW2, HI2⟩
        case measure => omega
      · by_cases hkB : K = 1 ∨ N = 0
        · have hcase : K = 1 ∨ (K = 2 ∧ ((N : Int) == 0) = true) := by
            rcases hkB with h | h
            · exact .inl h
            · by_cases h1 : K = 1
              · exact .inl h1
              · exact .inr ⟨by omega, by rw [show N = 0 by omega]; rfl⟩
          clear hkB
          have f3 : (Value.slice sa N scp).ownBlock ≠ some B9 := owns_far HI1.out.sends H91 (by decide)
          obtain ⟨i0, hi0, hz0, hz1, hz2⟩ := info_parts Ybaf.info37
          obtain ⟨i1, hi1, hy0, hy1, hy2⟩ := info_parts Ybaf.info35
          rcases hcase with rfl | ⟨rfl, hN0⟩
          all_goals
            go_upto_region 29 with (first | (go_at_call 7; refine (name_c N _ hnl).mono ?_; rintro e w2 ⟨rfl, hb2⟩) | fail)
            have hg2 := below_grown hb2
            have HI2 : Hid (I3 w w2 base (run evs) evs (.slice sa N scp) u4 u5 rvs hc mc) := HI1.out.new hg2
            have H92 : w2.heap[B9]? = some (.cells #[.int .u8 s.op, .int .u8 s.p, .int .u8 s.m, .int .i64 s.l] 31 (0, 0)) := (hg2.block B9 l9 (by simp)).trans H91
            have z93 : w2.cell? ⟨B9, 3, none⟩ = some (.int .i64 s.l) := cell_of_row w2 B9 3 _ _ _ H92
            have hs2 := HI2.out.size
            have HO2 : Hid (w2.ownsRow base 37 4 (.slice sa N scp) N (sc 0 (run evs).sends rvs)) := by
              have := HI2.out.sends
              rw [← HN.out] at this
              exact this
            clear t92 t93 H91 HI1 hb2 hg2 hs1
            go_wp2_with (first
              | (at_builtin; refine wpList_append_lies _ rfl (.tmp 136) (.tmp 142) 23 rfl base 37 i0 _ 4 56 Ybaf.underlying23 hi0 hz0 hz1 hz2 rfl (by decide) (.slice sa N scp) N (sc 0 (run evs).sends rvs) rfl (HO2.out.alloc _) ⟨w2.heap.size, 0, none⟩ 1 1 [.int .i64 P, .int .i64 s.l, .slice none 0 0, .string (name N)] rfl rfl (World.news_of_block (cs := #[.int .i64 P, .int .i64 s.l, .slice none 0 0, .string (name N)]) (t := 37) (fr := (0, 0)) (heap_alloc_new w2 _)) ?n1 (by decide) ?n2 ?n3 ?n4 (w2.heap.size + 1) (by simp) ?_)
              | fail)
            case n1 =>
              intro u hu
              simp only [List.mem_cons, List.not_mem_nil, or_false] at hu
              rcases hu with rfl | rfl | rfl | rfl <;> rfl
            case n2 => unfold maxLen; omega
            case n3 => omega
            case n4 => simp; omega
            intro g3 c3 w3 hown3 hgrow3 hat3 hlt3
            have HI3 : Hid (I3 w w3 base { run evs with sends := (run evs).sends ++ [⟨P, s.l, []⟩] } evs (.slice (some ⟨g3, 0, none⟩) (N + 1) c3) u4 u5 (rvs ++ [.slice none 0 0]) hc mc) := by
              refine (HI2.out.new (World.grownBy_alloc _ _ _)).sent hP3 hgrow3 ?_
              rw [← HN.out]
              exact hown3
            have H93 : w3.heap[B9]? = some (.cells #[.int .u8 s.op, .int .u8 s.p, .int .u8 s.m, .int .i64 s.l] 31 (0, 0)) := (hgrow3.block B9 (by simp; have := (Array.getElem?_eq_some_iff.1 H92).1; omega) (fun h => f3 h.symm)).trans ((Below.heap_alloc w2 _ B9 (Array.getElem?_eq_some_iff.1 H92).1).trans H92)
            have y93 : w3.cell? ⟨B9, 3, none⟩ = some (.int .i64 s.l) := cell_of_row w3 B9 3 _ _ _ H93
            have l93 : B9 < w3.heap.size := World.block_lt_of_cell? w3 _ y93
            have hs3 := HI3.out.size
            have f43 : u4.ownBlock ≠ some B9 := owns_far HI3.out.events H93 (by decide)
            clear hown3 hgrow3 hat3 hlt3 HI2 H92 z93 hs2 HO2 H93 f3 l9 f4
            go_wp2_with fail
            go_region_held3 (fun w' => w'.cell? ⟨B9, 3, none⟩ = some (.int .i64 s.l))
              (first
                | go_keep
                | (rw [hgrow.cell_far _ (by simp; omega) (Ne.symm f43)]; assumption))
              (first
                | (go_at_call 6; refine (proc_c P _ hP3).mono ?_; rintro e w' ⟨rfl, rfl⟩)
                | (refine step_append_lies _ (by rfl) (.tmp 144) (.tmp 151) 24 (by rfl) base 35 i1 _ 5 64 Ybaf.underlying24 hi1 hy0 hy1 hy2 rfl (by decide) u4 evs.length (ec evs) (by rfl) ((HI3.out.events.alloc _).drew) ⟨w3.heap.size, 0, none⟩ 1 1 (evC ⟨P, 1, N, s.l⟩) (by rfl) (by rfl) (World.news_of_block (cs := (evC ⟨P, 1, N, s.l⟩).toArray) (t := 35) (fr := (0, 0)) (heap_alloc_new w3 _)) (evC_one _) (by decide) (by unfold maxLen; omega) (by omega) (by simp; omega) (w3.heap.size + 1) (by simp) ?_; intro gg cc w1 hown1 hgrow hat hlt1)
                | fail)
            have HI4 : Hid (I3 w w1 base (run (evs ++ [⟨P, 1, N, s.l⟩])) (evs ++ [⟨P, 1, N, s.l⟩]) (.slice (some ⟨g3, 0, none⟩) (N + 1) c3) (.slice (some ⟨gg, 0, none⟩) (evs.length + 1) cc) u5 (rvs ++ [.slice none 0 0]) hc mc) := by
              show I3 _ _ _ _ _ _ _ _ _ _ _
              rw [run_snoc, upd_kind1 rfl]
              exact (HI3.out.new ((World.grownBy_alloc _ _ _).trans (grown_drew _ _))).event hgrow hown1
            have HW4 : Hid (Wf (evs ++ [⟨P, 1, N, s.l⟩])) := HW.out.snoc ⟨hP3, .inr (.inl ⟨rfl, HN.out⟩)⟩
            clear hown1 hgrow hat hlt1 HI3 HW y93
            go_wp2
            go_roundg g
            case rel => exact ⟨evs.length + 1, _, _, hc, mc, by omega, by simp, rfl, HW4, HI4⟩
            case measure => omega
        · have hK2 : K = 2 := by omega
          subst hK2
          have hNz : ¬ N = 0 := by omega
          have hN0 : ((N : Int) == 0) = false := by simp; omega
          obtain ⟨k, hk, hkN⟩ : ∃ k : Nat, s.m % (N : Int) = (k : Int) ∧ k < N := ⟨(s.m % (N : Int)).toNat, by have := Int.emod_nonneg s.m (show (N : Int) ≠ 0 by omega); omega, by have := Int.emod_lt_of_pos s.m (show (0 : Int) < (N : Int) by omega); omega⟩
          have hk0' : (0 : Int) ≤ (k : Int) := Int.natCast_nonneg _
          have hk1' : (k : Int) < (N : Int) := by omega
          obtain ⟨m, hm⟩ : ∃ m, (run evs).sends[k]? = some m := ⟨_, List.getElem?_eq_getElem (by rw [← HN.out]; exact hkN)⟩
          obtain ⟨gs, cp, hsv, hgs1, hgs2⟩ := HI1.out.sends.form (by rw [← HN.out]; omega)
          rw [← HN.out] at hsv
          injection hsv with hsa _ hscp
          subst hsa
          subst hscp
          obtain ⟨rv, hrv, hrow⟩ := HI1.out.at hm
          have HO1 : Hid (W1.ownsRow base 37 4 (.slice (some ⟨gs, 0, none⟩) N scp) N (sc 0 (run evs).sends rvs)) := by
            have := HI1.out.sends
            rw [← HN.out] at this
            exact this
          have t33 : W1.cell? ⟨gs, k * 4 + 3, none⟩ = some (.string (name k)) := own_cell HO1.out (by rw [sc_at hm hrv 3 (by omega)]; simp)
          have f4s : u4.ownBlock ≠ some gs := by
            rcases owns_apart HI1.out.events HI1.out.sends (by decide) with h | h
            · rw [h]; simp
            · exact h
          clear hrow hkB
          go_upto_region 18 with fail
          simp only [hk]
          obtain ⟨i1, hi1, hy0, hy1, hy2⟩ := info_parts Ybaf.info35
          go_cut [4] (fun ev' wx => ∃ gg cc, ev' = .slice (some ⟨gg, 0, none⟩) (evs.length + 1) cc ∧ Hid (I3 w wx base (run evs) (evs ++ [⟨P, 2, k, s.l⟩]) (.slice (some ⟨gs, 0, none⟩) N scp) (.slice (some ⟨gg, 0, none⟩) (evs.length + 1) cc) u5 rvs hc mc) ∧
            wx.heap[B9]? = some (.cells #[.int .u8 s.op, .int .u8 s.p, .int .u8 s.m, .int .i64 s.l] 31 (0, 0)))
          case first =>
            go_region_held3 (fun w' => w'.cell? ⟨B9, 3, none⟩ = some (.int .i64 s.l) ∧ w'.cell? ⟨gs, k * 4 + 3, none⟩ = some (.string (name k)))
              (first
                | go_keep
                | (go_split_ands
                   refine ⟨?_, ?_⟩
                   · (rw [hgrow.cell_far _ (by simp; omega) (Ne.symm f4)]; assumption)
                   · (rw [hgrow.cell_far _ (by simp; omega) (Ne.symm f4s)]; assumption)))
              (first
                | (go_at_call 6; refine (proc_c P _ hP3).mono ?_; rintro e w' ⟨rfl, rfl⟩)
                | (refine step_append_lies _ (by rfl) (.tmp 55) (.tmp 66) 24 (by rfl) base 35 i1 _ 5 64 Ybaf.underlying24 hi1 hy0 hy1 hy2 rfl (by decide) u4 evs.length (ec evs) (by rfl) ((HI1.out.events.alloc _).drew) ⟨W1.heap.size, 0, none⟩ 1 1 (evC ⟨P, 2, k, s.l⟩) (by rfl) (by rfl) (World.news_of_block (cs := (evC ⟨P, 2, k, s.l⟩).toArray) (t := 35) (fr := (0, 0)) (heap_alloc_new W1 _)) (evC_one _) (by decide) (by unfold maxLen; omega) (by omega) (by simp; omega) (W1.heap.size + 1) (by simp) ?_; intro gg cc w1 hown1 hgrow hat hlt1)
                | fail)
            all_goals
              go_wp2_with fail
              go_meet
              case rel =>
                refine ⟨gg, cc, rfl, (HI1.out.new ((World.grownBy_alloc _ _ _).trans (grown_drew _ _))).event hgrow hown1, ?_⟩
                exact (hgrow.block B9 (by simp; omega) (fun h => f4 h.symm)).trans ((Below.heap_alloc W1 _ B9 l9).trans H91)
          case rest =>
            obtain ⟨gg, cc, rfl, HI2, H92⟩ := hcut
            clear HO1 t33 f4s t92 t93 H91 l9 hs1 f4 HI1 hgs1 hgs2 hrv
            obtain ⟨rv, hrv, hrow⟩ := HI2.out.at hm
            have HO2 : Hid (wc.ownsRow base 37 4 (.slice (some ⟨gs, 0, none⟩) N scp) N (sc 0 (run evs).sends rvs)) := by
              have := HI2.out.sends
              rw [← HN.out] at this
              exact this
            have hs2 := HI2.out.size
            have t32 : wc.cell? ⟨gs, k * 4 + 2, none⟩ = some rv := own_cell HO2.out (by rw [sc_at hm hrv 2 (by omega)]; simp)
            have HRW : Hid (wc.ownsRow base 3 1 rv m.recv.length (nats m.recv)) := hrow
            have hrl : m.recv.length ≤ 1024 := by have := recv_le evs hm; omega
            have frs : rv.ownBlock ≠ some gs := by
              rcases owns_apart hrow HO2.out (by decide) with h | h
              · rw [h]; simp
              · exact h
            have fr9 : rv.ownBlock ≠ some B9 := owns_far hrow H92 (by decide)
            have l9 : B9 < wc.heap.size := (Array.getElem?_eq_some_iff.1 H92).1
            have lgs : gs < wc.heap.size := World.block_lt_of_cell? wc _ t32
            clear hrow
            obtain ⟨i0, hi0, hz0, hz1, hz2⟩ := info_parts Ybaf.info3
            go_wp2_with (first
              | (at_builtin; refine wpList_append_lies _ rfl (.tmp 74) (.tmp 76) 25 rfl base 3 i0 _ 1 8 Ybaf.underlying25 hi0 hz0 hz1 hz2 rfl (by decide) rv m.recv.length (nats m.recv) rfl (HRW.out.alloc _) ⟨wc.heap.size, 0, none⟩ 1 1 [.int .i64 P] rfl rfl (World.news_of_block (cs := #[.int .i64 P]) (t := 3) (fr := (0, 0)) (heap_alloc_new wc _)) ?n1 (by decide) ?n2 ?n3 ?n4 (wc.heap.size + 1) (by simp) ?_)
              | fail)
            case n1 => first | rfl | simp [Value.oneCell']
            case n2 => unfold maxLen; omega
            case n3 => omega
            case n4 => first | omega | (simp; omega)
            intro g3 c3 w3 hown3 hgrow3 hat3 hlt3
            have HO3 : Hid (w3.ownsRow base 37 4 (.slice (some ⟨gs, 0, none⟩) N scp) N (sc 0 (run evs).sends rvs)) := (HO2.out.alloc _).kept hgrow3 (.inr (fun h => frs h.symm))
            have t32' : w3.cell? ⟨gs, k * 4 + 2, none⟩ = some rv := own_cell HO3.out (by rw [sc_at hm hrv 2 (by omega)]; simp)
            have t32f : w3.frozen? ⟨gs, k * 4 + 2, none⟩ = false := by
              obtain ⟨cur, hcur, _⟩ := owns_tag HO3.out (g := gs) rfl
              exact frozen_of_row w3 gs _ cur 37 hcur
            have HI3 : Hid (I3 w (w3.setCell ⟨gs, k * 4 + 2, none⟩ (.slice (some ⟨g3, 0, none⟩) (m.recv.length + 1) c3)) base ⟨(run evs).sends.set k (m.got P), (run evs).last, (run evs).probs⟩ (evs ++ [⟨P, 2, k, s.l⟩]) (.slice (some ⟨gs, 0, none⟩) N scp) (.slice (some ⟨gg, 0, none⟩) (evs.length + 1) cc) u5 (rvs.set k (.slice (some ⟨g3, 0, none⟩) (m.recv.length + 1) c3)) hc mc) := by
              refine (HI2.out.new (World.grownBy_alloc _ _ _)).got hm hP3 hrv hgrow3 hown3 ?_
              rcases hat3 with h | h
              · exact .inl h
              · exact .inr (by simp [Value.ownBlock, h])
            have H93 : (w3.setCell ⟨gs, k * 4 + 2, none⟩ (.slice (some ⟨g3, 0, none⟩) (m.recv.length + 1) c3)).heap[B9]? = some (.cells #[.int .u8 s.op, .int .u8 s.p, .int .u8 s.m, .int .i64 s.l] 31 (0, 0)) := by
              obtain ⟨cur, hcur, _⟩ := owns_tag HO2.out (g := gs) rfl
              rw [heap_setCell_other _ _ _ _ (tag_ne H92 hcur (by decide))]
              exact (hgrow3.block B9 (by simp; omega) (fun h => fr9 h.symm)).trans ((Below.heap_alloc wc _ B9 l9).trans H92)
            obtain ⟨W3, hW3⟩ : ∃ W3, W3 = w3.setCell ⟨gs, k * 4 + 2, none⟩ (.slice (some ⟨g3, 0, none⟩) (m.recv.length + 1) c3) := ⟨_, rfl⟩
            rw [← hW3] at HI3 H93
            have HW3 : Hid (W3 = w3.setCell ⟨gs, k * 4 + 2, none⟩ (.slice (some ⟨g3, 0, none⟩) (m.recv.length + 1) c3)) := hW3
            clear hW3 hown3 hgrow3 hat3 hlt3 HO3 HI2 H92 HO2 hs2 t32 HRW frs fr9 l9 lgs
            go_upto_region 20 with fail
            rw [← HW3.out]
            clear HW3 t32' t32f
            have hm1 : (⟨(run evs).sends.set k (m.got P), (run evs).last, (run evs).probs⟩ : St).sends[k]? = some (m.got P) := List.getElem?_set_self (by rw [← HN.out]; exact hkN)
            obtain ⟨v3, hv3⟩ : ∃ v3, (rvs.set k (.slice (some ⟨g3, 0, none⟩) (m.recv.length + 1) c3))[k]? = some v3 := ⟨_, List.getElem?_set_self (by have := (List.getElem?_eq_some_iff.1 hrv).1; exact this)⟩
            obtain ⟨vr, hvr⟩ : ∃ vr, vr = rvs.set k (.slice (some ⟨g3, 0, none⟩) (m.recv.length + 1) c3) := ⟨_, rfl⟩
            rw [← hvr] at HI3 hv3
            have HO3 : Hid (W3.ownsRow base 37 4 (.slice (some ⟨gs, 0, none⟩) N scp) N (sc 0 ((run evs).sends.set k (m.got P)) vr)) := by
              have := HI3.out.sends
              simp only [List.length_set] at this
              rw [← HN.out] at this
              exact this
            have hm3 : m.p < 3 := (HI3.out.good.p k _ hm1).1
            have t30 : W3.cell? ⟨gs, k * 4, none⟩ = some (.int .i64 m.p) := own_cell HO3.out (by have := sc_at (k := 0) hm1 hv3 0 (by omega); simpa [Snd.got] using this)
            have t31 : W3.cell? ⟨gs, k * 4 + 1, none⟩ = some (.int .i64 m.line) := own_cell HO3.out (by have := sc_at (k := 0) hm1 hv3 1 (by omega); simpa [Snd.got] using this)
            have t93 : W3.cell? ⟨B9, 3, none⟩ = some (.int .i64 s.l) := cell_of_row W3 B9 3 _ _ _ H93
            have ib1 : (0 : Int) ≤ (m.p : Int) := Int.natCast_nonneg _
            have ib2 : (m.p : Int) < 3 := by omega
            have ib3 : (0 : Int) ≤ (P : Int) := Int.natCast_nonneg _
            have ib4 : (P : Int) < 3 := by omega
            have th : W3.cell? ⟨base, m.p * 3 + P, none⟩ = some (.bool ((run evs).last m.p P).isSome) := (cell_of_row W3 base _ _ _ _ HI3.out.has).trans (HI3.out.hasA m.p P hm3 hP3)
            obtain ⟨z, hz, hzl⟩ := HI3.out.maxA m.p P hm3 hP3
            have tm : W3.cell? ⟨base + 1, m.p * 3 + P, none⟩ = some (.int .i64 z) := (cell_of_row W3 (base + 1) _ _ _ _ HI3.out.max).trans hz
            have HZL : Hid (∀ kb, (run evs).last m.p P = some kb → z = (⟨(run evs).sends.set k (m.got P), (run evs).last, (run evs).probs⟩ : St).lineOf kb) := hzl
            clear hz hzl
            have tf : W3.frozen? ⟨base, m.p * 3 + P, none⟩ = false := frozen_of_row W3 base _ _ _ HI3.out.has
            have tf1 : W3.frozen? ⟨base + 1, m.p * 3 + P, none⟩ = false := frozen_of_row W3 (base + 1) _ _ _ HI3.out.max
            go_upto_region 21 with fail
            cases hl : (run evs).last m.p P with
            | none =>
              rw [hl] at th
              have th : W3.cell? ⟨base, m.p * 3 + P, none⟩ = some (.bool false) := th
              have HLT : Hid ((run evs).late m P = false) := late_none hl
              go_quiet (fail)
              go_wp2_with fail
              obtain ⟨W4, hW4⟩ : ∃ W4, W4 = W3.drewN nq := ⟨_, rfl⟩
              rw [← hW4]
              have hgz : W3.grownBy W4 none := by rw [hW4]; exact grown_drewN _ _ _
              have HI4 : Hid (I3 w W4 base ⟨(run evs).sends.set k (m.got P), (run evs).last, (run evs).probs⟩ (evs ++ [⟨P, 2, k, s.l⟩]) (.slice (some ⟨gs, 0, none⟩) N scp) (.slice (some ⟨gg, 0, none⟩) (evs.length + 1) cc) u5 vr hc mc) := HI3.out.new hgz
              have y31 : W4.cell? ⟨gs, k * 4 + 1, none⟩ = some (.int .i64 m.line) := by rw [hW4]; exact t31
              obtain ⟨W5, hW5⟩ : ∃ W5, W5 = W4.setCell ⟨base, m.p * 3 + P, none⟩ (.bool true) := ⟨_, rfl⟩
              rw [← hW5]
              have hgz5 : W4.grownBy W5 (some base) := by rw [hW5]; exact grown_setCell _ _ _
              obtain ⟨cur, hcur, _⟩ := owns_tag HI4.out.sends (g := gs) rfl
              have x31 : W5.cell? ⟨gs, k * 4 + 1, none⟩ = some (.int .i64 m.line) := (hgz5.cell_far _ (World.block_lt_of_cell? W4 _ y31) (fun h => tag_ne HI4.out.has hcur (by decide) (by injection h with h; exact h.symm))).trans y31
              have hmx : W5.heap[base + 1]? = some (.cells mc 29 (0, 0)) := (hgz5.block (base + 1) (by have := HI4.out.size; omega) (by simp)).trans HI4.out.max
              have xm : W5.cell? ⟨base + 1, m.p * 3 + P, none⟩ = some (.int .i64 z) := (cell_of_row W5 (base + 1) _ _ _ _ hmx).trans ((cell_of_row W3 (base + 1) _ _ _ _ HI3.out.max).symm.trans tm)
              have xf : W5.frozen? ⟨base + 1, m.p * 3 + P, none⟩ = false := frozen_of_row W5 (base + 1) _ _ _ hmx
              have HI6 : Hid (I3 w (W5.setCell ⟨base + 1, m.p * 3 + P, none⟩ (.int .i64 m.line)) base (run (evs ++ [⟨P, 2, k, s.l⟩])) (evs ++ [⟨P, 2, k, s.l⟩]) (.slice (some ⟨gs, 0, none⟩) N scp) (.slice (some ⟨gg, 0, none⟩) (evs.length + 1) cc) u5 vr (hc.setIfInBounds (m.p * 3 + P) (.bool true)) (mc.setIfInBounds (m.p * 3 + P) (.int .i64 m.line))) := by
                show I3 _ _ _ _ _ _ _ _ _ _ _
                rw [run_snoc, upd_kind2 rfl hm, got_mark HLT.out]
                have := HI4.out.marked hm3 hP3 (k := k) (by simp only [List.length_set]; rw [← HN.out]; exact hkN)
                have hlo : (⟨(run evs).sends.set k (m.got P), (run evs).last, (run evs).probs⟩ : St).lineOf k = m.line := by unfold St.lineOf; rw [hm1]; rfl
                rw [hlo, ← hW5] at this
                exact this
              have HW6 : Hid (Wf (evs ++ [⟨P, 2, k, s.l⟩])) := HW.out.snoc ⟨hP3, .inr (.inr ⟨rfl, by rw [← HN.out]; exact hkN⟩)⟩
              clear hW5 hW4 hgz hgz5 hcur cur HI4 hmx y31 HI3 HO3 t30 t31 t93 th tm tf tf1 HW H93 HLT hl HZL hv3 hm1 hvr
              go_region
              all_goals
                go_wp2
                go_roundg g
                case rel => exact ⟨evs.length + 1, _, vr, _, _, by omega, by simp, rfl, HW6, HI6.out.new (grown_drew _ _)⟩
                case measure => omega
            | some kb =>
              rw [hl] at th
              have th : W3.cell? ⟨base, m.p * 3 + P, none⟩ = some (.bool true) := th
              have hkb := HI3.out.good.last _ _ _ hl
              obtain ⟨m2, hm2⟩ : ∃ m2, ((run evs).sends.set k (m.got P))[kb]? = some m2 := ⟨_, List.getElem?_eq_getElem hkb⟩
              have hz2 : z = m2.line := by
                rw [HZL.out kb hl]
                unfold St.lineOf
                simp only
                rw [hm2]
                rfl
              have hlate := late_some hm hl hm2
              rw [← hz2] at hlate
              have HLT0 : Hid ((run evs).late m P = decide (m.line < z)) := hlate
              clear hlate hz2 hm2 hkb
              by_cases hd : m.line < z
              · have hd' : decide (m.line < z) = true := decide_eq_true hd
                have HLT : Hid ((run evs).late m P = true) := HLT0.out.trans hd'
                go_quiet (fail)
                have HPR : Hid (W3.ownsRow base 3 1 u5 (run evs).probs.length (ints (run evs).probs)) := HI3.out.prow
                have hpl : (run evs).probs.length ≤ 1024 := by have := probs_le evs; omega
                have hs3 := HI3.out.size
                go_wp2_with (first
                  | (at_builtin; refine wpList_append_lies _ rfl (.tmp 103) (.tmp 106) 25 rfl base 3 i0 _ 1 8 Ybaf.underlying25 hi0 hz0 hz1 hz2 rfl (by decide) u5 (run evs).probs.length (ints (run evs).probs) rfl ((HPR.out.kept (grown_drewN W3 nq none) ?n0).alloc _) ⟨W3.heap.size, 0, none⟩ 1 1 [.int .i64 s.l] rfl rfl (World.news_of_block (cs := #[.int .i64 s.l]) (t := 3) (fr := (0, 0)) (heap_alloc_new (W3.drewN nq) _)) ?n1 (by decide) ?n2 ?n3 ?n4 (W3.heap.size + 1) (by simp) ?_)
                  | fail)
                case n0 => cases u5.ownBlock <;> simp
                case n1 => first | rfl | simp [Value.oneCell']
                case n2 => unfold maxLen; omega
                case n3 => omega
                case n4 => first | omega | (simp; omega)
                intro g6 c6 w6 hown6 hgrow6 hat6 hlt6
                have HI6 : Hid (I3 w w6 base (run (evs ++ [⟨P, 2, k, s.l⟩])) (evs ++ [⟨P, 2, k, s.l⟩]) (.slice (some ⟨gs, 0, none⟩) N scp) (.slice (some ⟨gg, 0, none⟩) (evs.length + 1) cc) (.slice (some ⟨g6, 0, none⟩) ((run evs).probs.length + 1) c6) vr hc mc) := by
                  show I3 _ _ _ _ _ _ _ _ _ _ _
                  rw [run_snoc, upd_kind2 rfl hm, got_late HLT.out]
                  refine (HI3.out.new ((grown_drewN W3 nq none).trans (World.grownBy_alloc _ _ _))).told hgrow6 hown6 ?_
                  rcases hat6 with h | h
                  · exact .inl h
                  · exact .inr (by simp [Value.ownBlock, h])
                have HW6 : Hid (Wf (evs ++ [⟨P, 2, k, s.l⟩])) := HW.out.snoc ⟨hP3, .inr (.inr ⟨rfl, by rw [← HN.out]; exact hkN⟩)⟩
                clear hown6 hgrow6 hat6 hlt6 HPR HI3 HO3 t30 t31 t93 th tm tf tf1 HW H93 HLT hl HZL hv3 hm1 hvr
                go_wp2
                go_roundg g
                case rel => exact ⟨evs.length + 1, _, vr, hc, mc, by omega, by simp, rfl, HW6, HI6⟩
                case measure => omega
              · have hd' : decide (m.line < z) = false := decide_eq_false hd
                have HLT : Hid ((run evs).late m P = false) := HLT0.out.trans hd'
                clear HLT0
                go_quiet (fail)
                go_wp2_with fail
                obtain ⟨W4, hW4⟩ : ∃ W4, W4 = W3.drewN nq := ⟨_, rfl⟩
                rw [← hW4]
                have hgz : W3.grownBy W4 none := by rw [hW4]; exact grown_drewN _ _ _
                have HI4 : Hid (I3 w W4 base ⟨(run evs).sends.set k (m.got P), (run evs).last, (run evs).probs⟩ (evs ++ [⟨P, 2, k, s.l⟩]) (.slice (some ⟨gs, 0, none⟩) N scp) (.slice (some ⟨gg, 0, none⟩) (evs.length + 1) cc) u5 vr hc mc) := HI3.out.new hgz
                have y31 : W4.cell? ⟨gs, k * 4 + 1, none⟩ = some (.int .i64 m.line) := by rw [hW4]; exact t31
                obtain ⟨W5, hW5⟩ : ∃ W5, W5 = W4.setCell ⟨base, m.p * 3 + P, none⟩ (.bool true) := ⟨_, rfl⟩
                rw [← hW5]
                have hgz5 : W4.grownBy W5 (some base) := by rw [hW5]; exact grown_setCell _ _ _
                obtain ⟨cur, hcur, _⟩ := owns_tag HI4.out.sends (g := gs) rfl
                have x31 : W5.cell? ⟨gs, k * 4 + 1, none⟩ = some (.int .i64 m.line) := (hgz5.cell_far _ (World.block_lt_of_cell? W4 _ y31) (fun h => tag_ne HI4.out.has hcur (by decide) (by injection h with h; exact h.symm))).trans y31
                have hmx : W5.heap[base + 1]? = some (.cells mc 29 (0, 0)) := (hgz5.block (base + 1) (by have := HI4.out.size; omega) (by simp)).trans HI4.out.max
                have xm : W5.cell? ⟨base + 1, m.p * 3 + P, none⟩ = some (.int .i64 z) := (cell_of_row W5 (base + 1) _ _ _ _ hmx).trans ((cell_of_row W3 (base + 1) _ _ _ _ HI3.out.max).symm.trans tm)
                have xf : W5.frozen? ⟨base + 1, m.p * 3 + P, none⟩ = false := frozen_of_row W5 (base + 1) _ _ _ hmx
                have HI6 : Hid (I3 w (W5.setCell ⟨base + 1, m.p * 3 + P, none⟩ (.int .i64 m.line)) base (run (evs ++ [⟨P, 2, k, s.l⟩])) (evs ++ [⟨P, 2, k, s.l⟩]) (.slice (some ⟨gs, 0, none⟩) N scp) (.slice (some ⟨gg, 0, none⟩) (evs.length + 1) cc) u5 vr (hc.setIfInBounds (m.p * 3 + P) (.bool true)) (mc.setIfInBounds (m.p * 3 + P) (.int .i64 m.line))) := by
                  show I3 _ _ _ _ _ _ _ _ _ _ _
                  rw [run_snoc, upd_kind2 rfl hm, got_mark HLT.out]
                  have := HI4.out.marked hm3 hP3 (k := k) (by simp only [List.length_set]; rw [← HN.out]; exact hkN)
                  have hlo : (⟨(run evs).sends.set k (m.got P), (run evs).last, (run evs).probs⟩ : St).lineOf k = m.line := by unfold St.lineOf; rw [hm1]; rfl
                  rw [hlo, ← hW5] at this
                  exact this
                have HW6 : Hid (Wf (evs ++ [⟨P, 2, k, s.l⟩])) := HW.out.snoc ⟨hP3, .inr (.inr ⟨rfl, by rw [← HN.out]; exact hkN⟩)⟩
                clear hW5 hW4 hgz hgz5 hcur cur HI4 hmx y31 HI3 HO3 t30 t31 t93 th tm tf tf1 HW H93 HLT hl HZL hv3 hm1 hvr
                go_region
                all_goals
                  go_wp2
                  go_roundg g
                  case rel => exact ⟨evs.length + 1, _, vr, _, _, by omega, by simp, rfl, HW6, HI6.out.new (grown_drew _ _)⟩
                  case measure => omega

end Go.Proofs.YbulkcqaoFmt
