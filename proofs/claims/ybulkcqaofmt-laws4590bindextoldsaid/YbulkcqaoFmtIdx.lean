/-
  THE WALK of 'indexMessages' (function 8).
-/
import Derived.Test.YbulkcqaoFmtInv
import Derived.Deep.DeepCutAuto
import Derived.Deep.LoopGhost
import Derived.Deep.RegionHeld3
import Derived.Deep.RegionLaw
namespace Go.Proofs.YbulkcqaoFmt
open Go.RowKit Go.Deep Go.Maps Go.WideMaps

theorem fold_le : ∀ (l : List Ev) (S : St), (l.foldl St.upd S).sends.length ≤ S.sends.length + l.length
  | [], S => by simp
  | e :: r, S => by
    have h1 := fold_le r (S.upd e)
    have h2 : (S.upd e).sends.length ≤ S.sends.length + 1 := by
      unfold St.upd
      split
      · omega
      · split
        · simp
        · split
          · unfold St.got
            split <;> simp
          · omega
    simp only [List.foldl_cons, List.length_cons]
    omega
theorem sends_le (l : List Ev) : (run l).sends.length ≤ l.length := by
  have := fold_le l St.start
  simpa [run, St.start] using this

theorem fold_recv : ∀ (l : List Ev) (S : St) (N : Nat), (∀ s ∈ S.sends, s.recv.length ≤ N) → ∀ s ∈ (l.foldl St.upd S).sends, s.recv.length ≤ N + l.length
  | [], S, N, h => by simpa using h
  | e :: r, S, N, h => by
    have h1 := fold_recv r (S.upd e) (N + 1) (by
      intro s hs
      unfold St.upd at hs
      split at hs
      · have := h s hs; omega
      · split at hs
        · simp at hs
          rcases hs with hs | rfl
          · have := h s hs; omega
          · simp
        · split at hs
          · rename_i m hm
            have hmm := h m (List.mem_of_getElem? hm)
            have key : s ∈ S.sends.set e.k (m.got e.p) := by
              unfold St.got at hs
              split at hs <;> exact hs
            rcases List.mem_or_eq_of_mem_set key with hs | rfl
            · have := h s hs; omega
            · simp [Snd.got]; omega
          · have := h s hs; omega)
    intro s hs
    have := h1 s (by simpa using hs)
    simp only [List.length_cons]
    omega
theorem recv_le (l : List Ev) {k : Nat} {m : Snd} (h : (run l).sends[k]? = some m) : m.recv.length ≤ l.length := by
  have := fold_recv l St.start 0 (by simp [St.start]) m (List.mem_of_getElem? h)
  simpa using this
theorem fold_probs : ∀ (l : List Ev) (S : St), (l.foldl St.upd S).probs.length ≤ S.probs.length + l.length
  | [], S => by simp
  | e :: r, S => by
    have h1 := fold_probs r (S.upd e)
    have h2 : (S.upd e).probs.length ≤ S.probs.length + 1 := by
      unfold St.upd
      split
      · omega
      · split
        · simp
        · split
          · unfold St.got
            split <;> simp
          · omega
    simp only [List.foldl_cons, List.length_cons]
    omega
theorem probs_le (l : List Ev) : (run l).probs.length ≤ l.length := by
  have := fold_probs l St.start
  simpa [run, St.start] using this

theorem tag_ne {w : World} {x y : Nat} {c c' : Array Value} {t t' : TypeId} {fr fr' : Nat × Nat} (h : w.heap[x]? = some (.cells c t fr)) (h' : w.heap[y]? = some (.cells c' t' fr')) (hne : t ≠ t') : x ≠ y := fun e => by
  subst e
  rw [h] at h'
  injection h' with h'
  injection h' with _ h2
  exact hne h2

theorem got_mark {S : St} {k p : Nat} {l : Int} {m : Snd} (h : S.late m p = false) : S.got k p l m = ⟨S.sends.set k (m.got p), S.mark m.p p k, S.probs⟩ := by
  unfold St.got
  rw [h]
  rfl
theorem got_late {S : St} {k p : Nat} {l : Int} {m : Snd} (h : S.late m p = true) : S.got k p l m = ⟨S.sends.set k (m.got p), S.last, S.probs ++ [l]⟩ := by
  unfold St.got
  rw [h]
  rfl
theorem late_none {S : St} {p : Nat} {m : Snd} (h : S.last m.p p = none) : S.late m p = false := by
  unfold St.late
  rw [h]
/-- The lines stay as they were. -/
theorem line_set {S : St} {k p kb : Nat} {m m2 : Snd} (hm : S.sends[k]? = some m) (h2 : (S.sends.set k (m.got p))[kb]? = some m2) : ((S.sends[kb]?).getD Snd.none).line = m2.line := by
  by_cases h : kb = k
  · subst h
    rw [List.getElem?_set_self (List.getElem?_eq_some_iff.1 hm).1] at h2
    cases h2
    rw [hm]
    rfl
  · rw [List.getElem?_set_ne (Ne.symm h)] at h2
    rw [h2]
    rfl
theorem late_some {S : St} {k p kb : Nat} {m m2 : Snd} (hm : S.sends[k]? = some m) (h : S.last m.p p = some kb) (h2 : (S.sends.set k (m.got p))[kb]? = some m2) : S.late m p = decide (m.line < m2.line) := by
  unfold St.late
  rw [h]
  simp only
  rw [line_set hm h2]

theorem two_new (w : World) (o : Obj) (c : Array Value) (t : TypeId) : ((w.alloc o).alloc (.cells c t)).drew.drew.heap[w.heap.size + 1]? = some (.cells c t (0, 0)) := by
  have := heap_alloc_new (w.alloc o) (.cells c t)
  rw [World.size_alloc] at this
  exact this

theorem grown_drewN (w : World) (n : Nat) (row : Option Nat) : w.grownBy (w.drewN n) row := ⟨rfl, rfl, rfl, Nat.le_refl _, fun _ _ _ => rfl⟩
theorem grown_drew (w : World) (row : Option Nat) : w.grownBy w.drew row := ⟨rfl, rfl, rfl, Nat.le_refl _, fun _ _ _ => rfl⟩

/-- 'messages[name] = pointer', for the walk. -/
theorem wpList_sent (w : World) {ops : Array Oper} {rest : List Oper} {o : Oper} {a : Act} {Q : Exit → Act → World → Prop} (hg : o.guard = none) (m x v : Operand) (hop : o.op = Op.mapUpdate 38 m x v)
    (M c b : Nat) (bs : List Nat) (hm : a.eval m = .map (some M)) (hx : a.eval x = .string (name bs.length)) (hv : a.eval v = .pointer (some ⟨b, 0, none⟩)) (h : PMap w M c bs) (hc : c < maxLen) (hl : bs.length ≤ 1024)
    (hK : ∀ w', PMap w' M (c + 1) (bs ++ [b]) → w.grownBy w' (some M) → wpList Ybaf.prog ops Q rest (a.put o.dst undef) w') : wpList Ybaf.prog ops Q (o :: rest) a w := by
  refine wpList_plain hg fun K' hK' => ?_
  obtain ⟨w', hrun, r1, r2⟩ := h.store hc hl b
  unfold Oper.wp
  simp [execOp, hop, hm, hx, hv, hrun, Result.andThen]
  exact hK' _ _ (hK w' r1 r2)

/-- 'last[c] = e', for the walk. -/
theorem wpList_marked (w : World) {ops : Array Oper} {rest : List Oper} {o : Oper} {a : Act} {Q : Exit → Act → World → Prop} (hg : o.guard = none) (m x v : Operand) (hop : o.op = Op.mapUpdate 63 m x v)
    (L c : Nat) (last : Nat → Nat → Option Nat) (f t k : Nat) (l : Int) (hm : a.eval m = .map (some L)) (hx : a.eval x = chV f t) (hv : a.eval v = evV (chE t k l)) (h : LMap w L c last) (hc : c < maxLen) (hf : f < 3) (ht : t < 3)
    (hK : ∀ w', LMap w' L (c + 1) (fun x y => if x = f ∧ y = t then some k else last x y) → w.grownBy w' (some L) → wpList Ybaf.prog ops Q rest (a.put o.dst undef) w') : wpList Ybaf.prog ops Q (o :: rest) a w := by
  refine wpList_plain hg fun K' hK' => ?_
  obtain ⟨w', hrun, r1, r2⟩ := h.store hc hf ht k l
  unfold Oper.wp
  simp [execOp, hop, hm, hx, hv, hrun, Result.andThen]
  exact hK' _ _ (hK w' r1 r2)

/-- The events lie in memory. -/
def EvAt (w : World) (ev : Value) (evs : List Ev) : Prop :=
  ∃ (a : Option Addr) (cap : Nat), ev = .slice a evs.length cap ∧ ∀ (i : Nat) (e : Ev), evs[i]? = some e → ∃ g, a = some ⟨g, 0, none⟩ ∧ g < w.heap.size ∧ ∀ (f : Nat) (v : Value), (evC e)[f]? = some v → w.cell? ⟨g, i * 5 + f, none⟩ = some v

set_option maxRecDepth 20000 in
set_option maxHeartbeats 1000000 in
theorem idx_c (w : World) (ev : Value) (evs : List Ev) (hwf : Wf evs) (hev : EvAt w ev evs) (hn : evs.length ≤ 1024) :
    Calls Ybaf.prog 8 #[ev] w fun e w' => ∃ pv bs rvs ts, e = .returned (.tuple #[.map (some w.heap.size), pv]) ∧ I8 w w' w.heap.size evs.length (run evs) pv bs rvs ts := by
  obtain ⟨a, cap, rfl, hev⟩ := hev
  obtain ⟨base, hbase⟩ : ∃ base, base = w.heap.size := ⟨_, rfl⟩
  have HB : Hid (base = w.heap.size) := hbase
  have HE : Hid _ := hev
  have HW : Hid (Wf evs) := hwf
  have hmm := @run_makeMap Ybaf.prog
  clear hev hwf
  go_enter Ybaf.func8, Ybaf.ntmps8
  go_wp2
  rw [← hbase]
  clear hbase
  go_loopg [6, 17] evs.length (fun g pv iv wr => ∃ (i : Nat) (bs : List Nat) (rvs : List Value) (ts : List ByteArray), i + g = evs.length ∧ iv = .int .i64 i ∧ Hid (I8 w wr base i (run (evs.take i)) pv bs rvs ts))
  case atStart =>
    refine ⟨0, [], [], [], by omega, rfl, ?_⟩
    show I8 _ _ _ _ _ _ _ _ _
    rw [HB.out]
    have g1 : w.grownBy (w.alloc (.map #[] 0)) none := World.grownBy_alloc _ _ _
    have g2 : (w.alloc (.map #[] 0)).grownBy ((w.alloc (.map #[] 0)).alloc (.map #[] 0)) none := World.grownBy_alloc _ _ _
    have hl := LMap.made (w.alloc (.map #[] 0))
    rw [World.size_alloc] at hl
    exact ⟨((Below.refl _ w).alloc (Nat.le_refl _) _).alloc (by simp) _, by simp, (PMap.made w).kept g2 (by simp), hl, rfl, fun j b s rv h => by simp at h, fun i j b h => by simp at h, ⟨rfl, fun j v xs h => by simp at h, fun i j v v' g h => by simp at h⟩, World.ownsRow_nil _ _ _ _, rfl⟩
  case round =>
    obtain ⟨i, bs, rvs, ts, hig, rfl, HI⟩ := hrel
    cases gk with
    | zero =>
      have hz : ¬ ((i : Int) < (evs.length : Int)) := by omega
      go_wp2
      go_ret2
      have hi : i = evs.length := by omega
      subst hi
      rw [← HB.out]
      have hI := HI.out
      rw [List.take_length] at hI
      exact ⟨_, rfl, bs, rvs, ts, hI⟩
    | succ g =>
      have hlt : (i : Int) < (evs.length : Int) := by omega
      obtain ⟨e, he⟩ : ∃ e, evs[i]? = some e := ⟨_, List.getElem?_eq_getElem (by omega)⟩
      obtain ⟨g0, rfl, hg0, hc⟩ := HE.out i e he
      have hok := HW.out i e he
      have hbl := HI.out.below
      have hsz := HI.out.size
      have c0 : wr.cell? ⟨g0, i * 5, none⟩ = some (.string (proc e.p)) := (hbl.cell (by rw [HB.out]; exact hg0)).trans (hc 0 _ rfl)
      have c1 : wr.cell? ⟨g0, i * 5 + 1, none⟩ = some (.int .i64 e.kind) := (hbl.cell (by rw [HB.out]; exact hg0)).trans (hc 1 _ rfl)
      have c2 : wr.cell? ⟨g0, i * 5 + 2, none⟩ = some (.string (msg e)) := (hbl.cell (by rw [HB.out]; exact hg0)).trans (hc 2 _ rfl)
      have c3 : wr.cell? ⟨g0, i * 5 + 3, none⟩ = some (.string ⟨#[120]⟩) := (hbl.cell (by rw [HB.out]; exact hg0)).trans (hc 3 _ rfl)
      have c4 : wr.cell? ⟨g0, i * 5 + 4, none⟩ = some (.int .i64 e.line) := (hbl.cell (by rw [HB.out]; exact hg0)).trans (hc 4 _ rfl)
      have hrt := run_take he
      have HR : Hid _ := hrt
      clear hc hrt hbl HE
      obtain ⟨hp, h0 | ⟨h1, hk⟩ | ⟨h2, hk⟩⟩ := hok
      · rw [h0] at c1
        have HR' : Hid (run (evs.take (i + 1)) = run (evs.take i)) := HR.out.trans (upd_kind0 h0)
        clear HR
        go_wp2
        go_roundg g
        case rel =>
          refine ⟨i + 1, bs, rvs, ts, by omega, rfl, ?_⟩
          show I8 _ _ _ _ _ _ _ _ _
          rw [HR'.out]
          exact (HI.out.new (World.grownBy_alloc _ _ _)).mono (Nat.le_succ _)
        case measure => omega
      · rw [h1] at c1
        have hm : msg e = name e.k := by unfold msg; rw [if_neg (by omega)]
        rw [hm, hk, ← HI.out.lenb] at c2
        have hbl : bs.length ≤ 1024 := by
          have e1 := HI.out.lenb
          have e2 := sends_le (evs.take i)
          have e3 := List.length_take_le i evs
          omega
        have HR' : Hid _ := HR.out.trans (upd_kind1 h1)
        have HG : Hid (wr.grownBy ((wr.alloc (.cells #[.string (proc e.p), .int .i64 1, .string (name bs.length), .string ⟨#[120]⟩, .int .i64 e.line] 35)).alloc (.cells #[.string (proc e.p), .int .i64 e.line, .slice none 0 0] 47)) none) :=
          (World.grownBy_alloc _ _ _).trans (World.grownBy_alloc _ _ _)
        clear HR
        go_wp2_with (first
          | (at_mapUpdate; refine wpList_sent _ rfl (.tmp 25) (.tmp 27) (.tmp 33) rfl base i (wr.heap.size + 1) bs rfl rfl rfl (HI.out.msgs.kept HG.out ?n1) ?n2 hbl ?_)
          | fail)
        case n1 => simp
        case n2 => unfold maxLen; omega
        intro w2 hm2 hg2
        have HI2 : Hid (I8 w w2 base (i + 1) (run (evs.take (i + 1))) u6 (bs ++ [wr.heap.size + 1]) (rvs ++ [.slice none 0 0]) ts) := by
          show I8 _ _ _ _ _ _ _ _ _
          rw [HR'.out]
          refine HI.out.sent (by omega) HG.out ?_ hm2 hg2
          have := heap_alloc_new (wr.alloc (.cells #[.string (proc e.p), .int .i64 1, .string (name bs.length), .string ⟨#[120]⟩, .int .i64 e.line] 35)) (.cells #[.string (proc e.p), .int .i64 e.line, .slice none 0 0] 47)
          simpa using this
        clear HG hm2 hg2 HR' HI
        go_wp2
        go_roundg g
        case rel => exact ⟨i + 1, _, _, ts, by omega, rfl, HI2⟩
        case measure => omega
      · obtain ⟨m, hm⟩ : ∃ m, (run (evs.take i)).sends[e.k]? = some m := ⟨_, List.getElem?_eq_getElem hk⟩
        have hkl : e.k ≤ 1024 := by
          have e2 := sends_le (evs.take i)
          have e3 := List.length_take_le i evs
          omega
        rw [h2] at c1
        have hms : msg e = name e.k := by unfold msg; rw [if_neg (by omega)]
        rw [hms] at c2
        have hgood := (Wf.good HW.out i (by omega))
        obtain ⟨b, rv, hb, hr, hbb, hbox, hrow⟩ := HI.out.at hm
        have HR' : Hid _ := HR.out.trans (upd_kind2 h2 hm)
        have hl1 := (HI.out.msgs.kept (World.grownBy_alloc wr (.cells #[.string (proc e.p), .int .i64 2, .string (name e.k), .string ⟨#[120]⟩, .int .i64 e.line] 35) none) (by simp)).look hkl hb
        have hblt : b < wr.heap.size := (Array.getElem?_eq_some_iff.1 hbox).1
        clear HR
        go_upto_region 12 with fail
        obtain ⟨B8, hB8⟩ : ∃ B8, B8 = wr.heap.size := ⟨_, rfl⟩
        obtain ⟨W1, hW1⟩ : ∃ W1, W1 = (wr.alloc (.cells #[.string (proc e.p), .int .i64 2, .string (name e.k), .string ⟨#[120]⟩, .int .i64 e.line] 35)) := ⟨_, rfl⟩
        have HI1 : Hid (I8 w W1 base i (run (evs.take i)) u6 bs rvs ts) := by rw [hW1]; exact HI.out.new (World.grownBy_alloc _ _ _)
        have H81 : W1.heap[B8]? = some (.cells #[.string (proc e.p), .int .i64 2, .string (name e.k), .string ⟨#[120]⟩, .int .i64 e.line] 35 (0, 0)) := by rw [hW1, hB8]; exact heap_alloc_new _ _
        rw [← hW1, ← hB8]
        clear hl1 hbox hrow hr hbb hblt HI hB8 hW1
        obtain ⟨b', rv, hb', hr, hbb, hbox, hrow⟩ := HI1.out.at hm
        have hbe : b' = b := by rw [hb] at hb'; cases hb'; rfl
        subst hbe
        have hblt : b' < W1.heap.size := (Array.getElem?_eq_some_iff.1 hbox).1
        have h8lt : B8 < W1.heap.size := (Array.getElem?_eq_some_iff.1 H81).1
        have hbase1 := HI1.out.size
        have n1 := owns_far hrow hbox (by decide)
        have n2 := owns_far hrow H81 (by decide)
        have q1 : W1.cell? ⟨b', 2, none⟩ = some rv := cell_of_row W1 b' 2 _ _ _ hbox
        have q2 : W1.cell? ⟨B8, 0, none⟩ = some (.string (proc e.p)) := cell_of_row W1 B8 0 _ _ _ H81
        have hrl : m.recv.length ≤ 1024 := by
          have e2 := recv_le (evs.take i) hm
          have e3 := List.length_take_le i evs
          omega
        go_cut [] (fun wx => ∃ v', Hid (I8 w wx base i ⟨(run (evs.take i)).sends.set e.k (m.got e.p), (run (evs.take i)).last, (run (evs.take i)).probs⟩ u6 bs (rvs.set e.k v') ts) ∧
          wx.heap[B8]? = some (.cells #[.string (proc e.p), .int .i64 2, .string (name e.k), .string ⟨#[120]⟩, .int .i64 e.line] 35 (0, 0)))
        case first =>
          obtain ⟨i0, hi0, hz0, hz1, hz2⟩ := info_parts Ybaf.info9
          have HX : Hid (W1.heap[b']? = some (.cells #[.string (proc m.p), .int .i64 m.line, rv] 47 (0, 0))) := hbox
          have HRW : Hid (W1.ownsRow base 9 1 rv m.recv.length (rs m.recv)) := hrow
          have H8 : Hid (W1.heap[B8]? = some (.cells #[.string (proc e.p), .int .i64 2, .string (name e.k), .string ⟨#[120]⟩, .int .i64 e.line] 35 (0, 0))) := H81
          clear hbox hrow H81
          go_region_law ((refine step_append_lies _ (by rfl) (.tmp 44) (.tmp 47) 45 (by rfl) base 9 i0 _ 1 16 Ybaf.underlying45 hi0 hz0 hz1 hz2 rfl (by decide) rv m.recv.length (rs m.recv) (by rfl) ((HRW.out.alloc _).drew) ⟨W1.heap.size, 0, none⟩ 1 1 [.string (proc e.p)] (by rfl) (by rfl) (World.news_of_block (cs := #[.string (proc e.p)]) (t := 9) (fr := (0, 0)) (heap_alloc_new W1 _)) (by simp [Value.oneCell']) (by decide) (by unfold maxLen; omega) (by omega) (by simp; omega) (W1.heap.size + 1) (by simp) ?_; intro gg cc w1 hown1 hgrow hat hlt1; have hbx1 : w1.heap[b']? = some (.cells #[.string (proc m.p), .int .i64 m.line, rv] 47 (0, 0)) := (hgrow.block b' (by simp; omega) (fun h => n1 h.symm)).trans ((Below.heap_alloc W1 _ b' hblt).trans HX.out); have z1 : w1.cell? ⟨b', 2, none⟩ = some rv := cell_of_row w1 b' 2 _ _ _ hbx1; have z2 : w1.frozen? ⟨b', 2, none⟩ = false := frozen_of_row w1 b' 2 _ _ hbx1))
          all_goals
            go_wp2_with fail
            go_meet
            case rel =>
              have hgz : W1.grownBy ((W1.alloc (.cells #[.string (proc e.p)] 9)).drew) none := (World.grownBy_alloc _ _ _).trans (grown_drew _ _)
              refine ⟨_, (HI1.out.new hgz).got hm hb hr hgrow hown1 ?_ (grown_setCell w1 ⟨b', 2, none⟩ _) (heap_setCell_same w1 b' 2 _ _ _ hbx1), ?_⟩
              · rcases hat with h | h
                · exact .inl h
                · exact .inr (by simp [Value.ownBlock, h])
              · rw [heap_setCell_other _ _ _ _ (tag_ne H8.out HX.out (by decide))]
                exact (hgrow.block B8 (by simp; omega) (fun h => n2 h.symm)).trans ((Below.heap_alloc W1 _ B8 h8lt).trans H8.out)
        case rest =>
          obtain ⟨v', HI2, H82⟩ := hcut
          clear q1 q2 n1 n2 hblt h8lt HI1 hrow hbox H81 hr hb' hbase1
          have hk1 : (⟨(run (evs.take i)).sends.set e.k (m.got e.p), (run (evs.take i)).last, (run (evs.take i)).probs⟩ : St).sends[e.k]? = some (m.got e.p) := List.getElem?_set_self hk
          obtain ⟨b2, rv2, hb2, hr2, hbb2, hbox2, hrow2⟩ := HI2.out.at hk1
          have hbe : b2 = b' := by rw [hb] at hb2; cases hb2; rfl
          subst hbe
          have hp0 : wc.cell? ⟨b2, 0, none⟩ = some (.string (proc m.p)) := cell_of_row wc b2 0 _ _ _ hbox2
          have hp8 : wc.cell? ⟨B8, 0, none⟩ = some (.string (proc e.p)) := cell_of_row wc B8 0 _ _ _ H82
          have l2 : b2 < wc.heap.size := (Array.getElem?_eq_some_iff.1 hbox2).1
          have l8 : B8 < wc.heap.size := (Array.getElem?_eq_some_iff.1 H82).1
          have k2 := World.new_ne wc _ hp0
          have k8 := World.new_ne wc _ hp8
          have HX2 : Hid (wc.heap[b2]? = some (.cells #[.string (proc m.p), .int .i64 m.line, rv2] 47 (0, 0))) := hbox2
          have HRW2 : Hid _ := hrow2
          have HH82 : Hid (wc.heap[B8]? = some (.cells #[.string (proc e.p), .int .i64 2, .string (name e.k), .string ⟨#[120]⟩, .int .i64 e.line] 35 (0, 0))) := H82
          clear hbox2 hrow2 H82
          go_wp2_with fail
          go_region_held3 (fun w' => w'.cell? ⟨b2, 0, none⟩ = some (.string (proc m.p)) ∧ w'.cell? ⟨B8, 0, none⟩ = some (.string (proc e.p))) (go_keep) (fail)
          obtain ⟨B10, hB10⟩ : ∃ B10, B10 = wc.heap.size := ⟨_, rfl⟩
          obtain ⟨W2, hW2⟩ : ∃ W2, W2 = (wc.alloc (.cells #[.string (proc m.p), .string (proc e.p)] 65)).drew := ⟨_, rfl⟩
          have hgz : wc.grownBy W2 none := by rw [hW2]; exact (World.grownBy_alloc _ _ _).trans (grown_drew _ _)
          have HI3 : Hid (I8 w W2 base i ⟨(run (evs.take i)).sends.set e.k (m.got e.p), (run (evs.take i)).last, (run (evs.take i)).probs⟩ u6 bs (rvs.set e.k v') ts) := HI2.out.new hgz
          have H83 : W2.heap[B8]? = some (.cells #[.string (proc e.p), .int .i64 2, .string (name e.k), .string ⟨#[120]⟩, .int .i64 e.line] 35 (0, 0)) := (hgz.block B8 l8 (by simp)).trans HH82.out
          have HX3 : W2.heap[b2]? = some (.cells #[.string (proc m.p), .int .i64 m.line, rv2] 47 (0, 0)) := (hgz.block b2 l2 (by simp)).trans HX2.out
          have H103 : W2.heap[B10]? = some (.cells #[.string (proc m.p), .string (proc e.p)] 65 (0, 0)) := by rw [hW2, hB10]; exact heap_alloc_new _ _
          rw [← hW2, ← hB10]
          have hgood := hgood
          have hm3 := (hgood.p e.k m hm).1
          clear hgz HI2 HX2 HRW2 HH82 hp0 hp8 l2 l8 k2 k8 hB10 hW2
          have t10 : W2.cell? ⟨B10, 0, none⟩ = some (.string (proc m.p)) := cell_of_row W2 B10 0 _ _ _ H103
          have t11 : W2.cell? ⟨B10, 1, none⟩ = some (.string (proc e.p)) := cell_of_row W2 B10 1 _ _ _ H103
          rcases HI3.out.last.look hm3 hp with ⟨hnone, hlk⟩ | ⟨kb, lb, hsome, hlk⟩
          · unfold chV zeroEv at hlk
            go_wp2_with fail
            obtain ⟨W3, hW3⟩ : ∃ W3, W3 = (W2.alloc (.cells #[.string ByteArray.empty, .int .i64 0, .string ByteArray.empty, .string ByteArray.empty, .int .i64 0] 35)) := ⟨_, rfl⟩
            have hgz : W2.grownBy W3 none := by rw [hW3]; exact World.grownBy_alloc _ _ _
            have HI4 : Hid (I8 w W3 base i ⟨(run (evs.take i)).sends.set e.k (m.got e.p), (run (evs.take i)).last, (run (evs.take i)).probs⟩ u6 bs (rvs.set e.k v') ts) := HI3.out.new hgz
            have H84 : W3.heap[B8]? = some (.cells #[.string (proc e.p), .int .i64 2, .string (name e.k), .string ⟨#[120]⟩, .int .i64 e.line] 35 (0, 0)) := (hgz.block B8 (Array.getElem?_eq_some_iff.1 H83).1 (by simp)).trans H83
            have H104 : W3.heap[B10]? = some (.cells #[.string (proc m.p), .string (proc e.p)] 65 (0, 0)) := (hgz.block B10 (Array.getElem?_eq_some_iff.1 H103).1 (by simp)).trans H103
            rw [← hW3]
            clear hgz HI3 H83 HX3 H103 hW3 hlk t10 t11
            have t10 : W3.cell? ⟨B10, 0, none⟩ = some (.string (proc m.p)) := cell_of_row W3 B10 0 _ _ _ H104
            have t11 : W3.cell? ⟨B10, 1, none⟩ = some (.string (proc e.p)) := cell_of_row W3 B10 1 _ _ _ H104
            have t80 : W3.cell? ⟨B8, 0, none⟩ = some (.string (proc e.p)) := cell_of_row W3 B8 0 _ _ _ H84
            have t81 : W3.cell? ⟨B8, 1, none⟩ = some (.int .i64 2) := cell_of_row W3 B8 1 _ _ _ H84
            have t82 : W3.cell? ⟨B8, 2, none⟩ = some (.string (name e.k)) := cell_of_row W3 B8 2 _ _ _ H84
            have t83 : W3.cell? ⟨B8, 3, none⟩ = some (.string ⟨#[120]⟩) := cell_of_row W3 B8 3 _ _ _ H84
            have t84 : W3.cell? ⟨B8, 4, none⟩ = some (.int .i64 e.line) := cell_of_row W3 B8 4 _ _ _ H84
            clear H84 H104
            go_quiet (fail)
            go_wp2_with (first
              | (at_mapUpdate; refine wpList_marked _ rfl (.tmp 101) (.tmp 102) (.tmp 103) rfl (base + 1) i (run (evs.take i)).last m.p e.p e.k e.line rfl rfl rfl ((HI4.out.new (grown_drewN _ _ none)).last) ?n1 hm3 hp ?_)
              | fail)
            case n1 => unfold maxLen; omega
            intro w5 hl5 hg5
            have HI5 : Hid (I8 w w5 base (i + 1) (run (evs.take (i + 1))) u6 bs (rvs.set e.k v') ts) := by
              show I8 _ _ _ _ _ _ _ _ _
              rw [HR'.out, got_mark (late_none hnone)]
              exact (HI4.out.new (grown_drewN _ _ none)).marked hg5 hl5
            clear hl5 hg5 HI4 t10 t11 t80 t81 t82 t83 t84 HR'
            go_wp2
            go_roundg g
            case rel => exact ⟨i + 1, _, _, ts, by omega, rfl, HI5⟩
            case measure => omega
          · unfold chV at hlk
            have hev : evV (chE e.p kb lb) = .agg #[.string (proc e.p), .int .i64 2, .string (name kb), .string ⟨#[120]⟩, .int .i64 lb] := rfl
            rw [hev] at hlk
            have hkb : kb < (run (evs.take i)).sends.length := hgood.last _ _ _ hsome
            have hkbl : kb ≤ 1024 := by
              have e2 := sends_le (evs.take i)
              have e3 := List.length_take_le i evs
              omega
            go_wp2_with fail
            obtain ⟨B11, hB11⟩ : ∃ B11, B11 = W2.heap.size := ⟨_, rfl⟩
            obtain ⟨W3, hW3⟩ : ∃ W3, W3 = (W2.alloc (.cells #[.string (proc e.p), .int .i64 2, .string (name kb), .string ⟨#[120]⟩, .int .i64 lb] 35)) := ⟨_, rfl⟩
            have hgz : W2.grownBy W3 none := by rw [hW3]; exact World.grownBy_alloc _ _ _
            have HI4 : Hid (I8 w W3 base i ⟨(run (evs.take i)).sends.set e.k (m.got e.p), (run (evs.take i)).last, (run (evs.take i)).probs⟩ u6 bs (rvs.set e.k v') ts) := HI3.out.new hgz
            have H84 : W3.heap[B8]? = some (.cells #[.string (proc e.p), .int .i64 2, .string (name e.k), .string ⟨#[120]⟩, .int .i64 e.line] 35 (0, 0)) := (hgz.block B8 (Array.getElem?_eq_some_iff.1 H83).1 (by simp)).trans H83
            have H104 : W3.heap[B10]? = some (.cells #[.string (proc m.p), .string (proc e.p)] 65 (0, 0)) := (hgz.block B10 (Array.getElem?_eq_some_iff.1 H103).1 (by simp)).trans H103
            have HX4 : W3.heap[b2]? = some (.cells #[.string (proc m.p), .int .i64 m.line, rv2] 47 (0, 0)) := (hgz.block b2 (Array.getElem?_eq_some_iff.1 HX3).1 (by simp)).trans HX3
            have H114 : W3.heap[B11]? = some (.cells #[.string (proc e.p), .int .i64 2, .string (name kb), .string ⟨#[120]⟩, .int .i64 lb] 35 (0, 0)) := by rw [hW3, hB11]; exact heap_alloc_new _ _
            rw [← hW3, ← hB11]
            clear hgz HI3 H83 HX3 H103 hW3 hB11 hlk t10 t11
            obtain ⟨m2, hm2⟩ : ∃ m2, ((run (evs.take i)).sends.set e.k (m.got e.p))[kb]? = some m2 := ⟨_, List.getElem?_eq_getElem (by simpa using hkb)⟩
            obtain ⟨b3, rv3, hb3, hr3, hbb3, hbox3, hrow3⟩ := HI4.out.at hm2
            have hl3 : ∀ n, (Instr.lookup 38 (.map (some base)) (.string (name kb)) false).run Ybaf.prog (W3.drewN n) = .ok (.pointer (some ⟨b3, 0, none⟩)) (W3.drewN n) := fun n => (HI4.out.new (grown_drewN W3 n none)).msgs.look hkbl hb3
            have hlate := late_some hm hsome hm2
            have t10 : W3.cell? ⟨B10, 0, none⟩ = some (.string (proc m.p)) := cell_of_row W3 B10 0 _ _ _ H104
            have t11 : W3.cell? ⟨B10, 1, none⟩ = some (.string (proc e.p)) := cell_of_row W3 B10 1 _ _ _ H104
            have t80 : W3.cell? ⟨B8, 0, none⟩ = some (.string (proc e.p)) := cell_of_row W3 B8 0 _ _ _ H84
            have t81 : W3.cell? ⟨B8, 1, none⟩ = some (.int .i64 2) := cell_of_row W3 B8 1 _ _ _ H84
            have t82 : W3.cell? ⟨B8, 2, none⟩ = some (.string (name e.k)) := cell_of_row W3 B8 2 _ _ _ H84
            have t83 : W3.cell? ⟨B8, 3, none⟩ = some (.string ⟨#[120]⟩) := cell_of_row W3 B8 3 _ _ _ H84
            have t84 : W3.cell? ⟨B8, 4, none⟩ = some (.int .i64 e.line) := cell_of_row W3 B8 4 _ _ _ H84
            have t112 : W3.cell? ⟨B11, 2, none⟩ = some (.string (name kb)) := cell_of_row W3 B11 2 _ _ _ H114
            have t114 : W3.cell? ⟨B11, 4, none⟩ = some (.int .i64 lb) := cell_of_row W3 B11 4 _ _ _ H114
            have t20 : W3.cell? ⟨b2, 0, none⟩ = some (.string (proc m.p)) := cell_of_row W3 b2 0 _ _ _ HX4
            have t21 : W3.cell? ⟨b2, 1, none⟩ = some (.int .i64 m.line) := cell_of_row W3 b2 1 _ _ _ HX4
            have t31 : W3.cell? ⟨b3, 1, none⟩ = some (.int .i64 m2.line) := cell_of_row W3 b3 1 _ _ _ hbox3
            have HLT : Hid _ := hlate
            clear H104 hbox3 hrow3 hbb3 hlate
            by_cases hd : m.line < m2.line
            · have hd' : decide (m.line < m2.line) = true := decide_eq_true hd
              go_quiet (fail)
              go_wp2_with fail
              have HLT' : Hid ((run (evs.take i)).late m e.p = true) := HLT.out.trans hd'
              obtain ⟨W4, hW4⟩ : ∃ W4, W4 = W3.drewN nq := ⟨_, rfl⟩
              have hgz : W3.grownBy W4 none := by rw [hW4]; exact grown_drewN _ _ _
              have HI6 : Hid (I8 w W4 base i ⟨(run (evs.take i)).sends.set e.k (m.got e.p), (run (evs.take i)).last, (run (evs.take i)).probs⟩ u6 bs (rvs.set e.k v') ts) := HI4.out.new hgz
              have y84 : W4.cell? ⟨B8, 4, none⟩ = some (.int .i64 e.line) := by rw [hW4]; exact t84
              have y82 : W4.cell? ⟨B8, 2, none⟩ = some (.string (name e.k)) := by rw [hW4]; exact t82
              have y112 : W4.cell? ⟨B11, 2, none⟩ = some (.string (name kb)) := by rw [hW4]; exact t112
              have y114 : W4.cell? ⟨B11, 4, none⟩ = some (.int .i64 lb) := by rw [hW4]; exact t114
              have y20 : W4.cell? ⟨b2, 0, none⟩ = some (.string (proc m.p)) := by rw [hW4]; exact t20
              have f8 : u6.ownBlock ≠ some B8 := owns_far HI4.out.probs H84 (by decide)
              have f2 : u6.ownBlock ≠ some b2 := owns_far HI4.out.probs HX4 (by decide)
              have f11 : u6.ownBlock ≠ some B11 := owns_far HI4.out.probs H114 (by decide)
              rw [← hW4]
              clear t10 t11 t80 t81 t82 t83 t84 t112 t114 t20 t21 t31 H84 HX4 H114 hW4 hgz HI4 hd' hl3
              have l8 : B8 < W4.heap.size := World.block_lt_of_cell? W4 _ y84
              have l11 : B11 < W4.heap.size := World.block_lt_of_cell? W4 _ y112
              have l2 : b2 < W4.heap.size := World.block_lt_of_cell? W4 _ y20
              have hs4 := HI6.out.size
              have hpl : (run (evs.take i)).probs.length ≤ 1024 := by
                have e2 := probs_le (evs.take i)
                have e3 := List.length_take_le i evs
                omega
              obtain ⟨i0, hi0, hz0, hz1, hz2⟩ := info_parts Ybaf.info43
              go_region_held3 (fun w' => w'.cell? ⟨B8, 4, none⟩ = some (.int .i64 e.line) ∧ w'.cell? ⟨B8, 2, none⟩ = some (.string (name e.k)) ∧ w'.cell? ⟨B11, 2, none⟩ = some (.string (name kb)) ∧ w'.cell? ⟨B11, 4, none⟩ = some (.int .i64 lb) ∧ w'.cell? ⟨b2, 0, none⟩ = some (.string (proc m.p)))
                (first
                  | go_keep
                  | (go_split_ands
                     refine ⟨?_, ?_, ?_, ?_, ?_⟩
                     · (rw [hgrow.cell_far _ (by simp; omega) (Ne.symm f8)]; assumption)
                     · (rw [hgrow.cell_far _ (by simp; omega) (Ne.symm f8)]; assumption)
                     · (rw [hgrow.cell_far _ (by simp; omega) (Ne.symm f11)]; assumption)
                     · (rw [hgrow.cell_far _ (by simp; omega) (Ne.symm f11)]; assumption)
                     · (rw [hgrow.cell_far _ (by simp; omega) (Ne.symm f2)]; assumption)))
                (first
                  | (refine step_sprintf (by rfl) (.tmp 96) (by rfl) W4.heap.size (name e.k) (name kb) (proc m.p) lb 20 (0, 0) (by rfl) (heap_alloc_new W4 _) ?_; intro txt)
                  | (refine step_append_lies _ (by rfl) (.tmp 79) (.tmp 99) 39 (by rfl) base 43 i0 _ 2 24 Ybaf.underlying39 hi0 hz0 hz1 hz2 rfl (by decide) u6 (run (evs.take i)).probs.length (pc (run (evs.take i)).probs ts) (by rfl) (((HI6.out.probs.alloc _).alloc _).drew.drew) ⟨W4.heap.size + 1, 0, none⟩ 1 1 [.int .i64 e.line, .string txt] (by rfl) (by rfl) (World.news_of_block (cs := #[.int .i64 e.line, .string txt]) (t := 43) (fr := (0, 0)) (two_new W4 _ _ _)) (by simp [Value.oneCell']) (by decide) (by unfold maxLen; omega) (by omega) (by simp; omega) (W4.heap.size + 2) (by simp) ?_; intro gg cc w1 hown1 hgrow hat hlt1))
              have HI7 : Hid (I8 w w1 base (i + 1) (run (evs.take (i + 1))) (.slice (some ⟨gg, 0, none⟩) ((run (evs.take i)).probs.length + 1) cc) bs (rvs.set e.k v') (ts ++ [txt])) := by
                show I8 _ _ _ _ _ _ _ _ _
                rw [HR'.out, got_late HLT'.out]
                exact ((HI6.out.new ((((World.grownBy_alloc _ _ _).trans (World.grownBy_alloc _ _ _)).trans (grown_drew _ _)).trans (grown_drew _ _))).told hgrow hown1).mono (Nat.le_succ _)
              clear hown1 hgrow hat hlt1 HI6 HR' y84 y82 y112 y114 y20
              go_wp2
              go_roundg g
              case rel => exact ⟨i + 1, _, _, _, by omega, rfl, HI7⟩
              case measure => omega
            · have hd' : decide (m.line < m2.line) = false := decide_eq_false hd
              have HLT' : Hid _ := HLT.out.trans hd'
              go_quiet (fail)
              go_wp2_with (first
                | (at_mapUpdate; refine wpList_marked _ rfl (.tmp 101) (.tmp 102) (.tmp 103) rfl (base + 1) i (run (evs.take i)).last m.p e.p e.k e.line rfl rfl rfl ((HI4.out.new (grown_drewN _ _ none)).last) ?n1 hm3 hp ?_)
                | fail)
              case n1 => unfold maxLen; omega
              intro w5 hl5 hg5
              have HI5 : Hid (I8 w w5 base (i + 1) (run (evs.take (i + 1))) u6 bs (rvs.set e.k v') ts) := by
                show I8 _ _ _ _ _ _ _ _ _
                rw [HR'.out, got_mark HLT'.out]
                exact (HI4.out.new (grown_drewN _ _ none)).marked hg5 hl5
              clear hl5 hg5 HI4 t10 t11 t80 t81 t82 t83 t84 HR' t112 t114 t20 t21 t31
              go_wp2
              go_roundg g
              case rel => exact ⟨i + 1, _, _, ts, by omega, rfl, HI5⟩
              case measure => omega

end Go.Proofs.YbulkcqaoFmt
