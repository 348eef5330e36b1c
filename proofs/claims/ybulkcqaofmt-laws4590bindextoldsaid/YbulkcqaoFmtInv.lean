/-
  THE RELATION OF THE LOOP of 'indexMessages', WITHOUT A WALK.
-/
import Derived.Test.YbulkcqaoFmtMaps
namespace Go.Proofs.YbulkcqaoFmt
open Go.RowKit Go.Deep Go.Maps Go.WideMaps

/-- The cells of the problems. -/
def pc : List Int → List ByteArray → List Value
  | l :: ls, t :: ts => [.int .i64 l, .string t] ++ pc ls ts
  | _, _ => []
theorem pc_snoc (ls : List Int) (l : Int) (t : ByteArray) : ∀ ts : List ByteArray, ts.length = ls.length → pc (ls ++ [l]) (ts ++ [t]) = pc ls ts ++ [.int .i64 l, .string t] := by
  induction ls with
  | nil =>
    intro ts h
    have : ts = [] := List.eq_nil_of_length_eq_zero (by simpa using h)
    subst this
    simp [pc]
  | cons x r ih =>
    intro ts h
    cases ts with
    | nil => simp at h
    | cons y ts => simp [pc, ih ts (by simpa using h)]
theorem pc_at {ls : List Int} : ∀ {ts : List ByteArray} {j : Nat} {l : Int}, ts.length = ls.length → ls[j]? = some l → (pc ls ts)[j * 2]? = some (.int .i64 l) := by
  induction ls with
  | nil => intro ts j l _ h; simp at h
  | cons x r ih =>
    intro ts j l hl h
    cases ts with
    | nil => simp at hl
    | cons y ts =>
      cases j with
      | zero => simp at h; subst h; simp [pc]
      | succ j =>
        have := ih (ts := ts) (j := j) (l := l) (by simpa using hl) (by simpa using h)
        rw [show (j + 1) * 2 = j * 2 + 2 by omega]
        simpa [pc] using this

/-- Receivers as cells. -/
def rs (l : List Nat) : List Value := l.map fun q => Value.string (proc q)

structure I8 (w0 w : World) (base c : Nat) (S : St) (pv : Value) (bs : List Nat) (rvs : List Value) (ts : List ByteArray) : Prop where
  below : Below base w0 w
  size : base + 2 ≤ w.heap.size
  msgs : PMap w base c bs
  last : LMap w (base + 1) c S.last
  lenb : bs.length = S.sends.length
  box : ∀ (j b : Nat) (s : Snd) (rv : Value), bs[j]? = some b → S.sends[j]? = some s → rvs[j]? = some rv → base ≤ b ∧ w.heap[b]? = some (.cells #[.string (proc s.p), .int .i64 s.line, rv] 47 (0, 0))
  apart : ∀ (i j b : Nat), bs[i]? = some b → bs[j]? = some b → i = j
  fam : Fam w base 9 rvs (S.sends.map fun s => rs s.recv)
  probs : w.ownsRow base 43 2 pv S.probs.length (pc S.probs ts)
  tlen : ts.length = S.probs.length

theorem I8.lenr {w0 w : World} {base c : Nat} {S : St} {pv : Value} {bs : List Nat} {rvs : List Value} {ts : List ByteArray} (h : I8 w0 w base c S pv bs rvs ts) : rvs.length = S.sends.length := by
  have := h.fam.len
  simpa using this

/-- Of message k: its block, its receivers' slice. -/
theorem I8.at {w0 w : World} {base c : Nat} {S : St} {pv : Value} {bs : List Nat} {rvs : List Value} {ts : List ByteArray} (h : I8 w0 w base c S pv bs rvs ts) {k : Nat} {m : Snd} (hm : S.sends[k]? = some m) :
    ∃ b rv, bs[k]? = some b ∧ rvs[k]? = some rv ∧ base ≤ b ∧ w.heap[b]? = some (.cells #[.string (proc m.p), .int .i64 m.line, rv] 47 (0, 0)) ∧ w.ownsRow base 9 1 rv m.recv.length (rs m.recv) := by
  have hk : k < S.sends.length := (List.getElem?_eq_some_iff.1 hm).1
  have hb : bs[k]? = some (bs[k]'(by rw [h.lenb]; exact hk)) := List.getElem?_eq_getElem _
  have hr : rvs[k]? = some (rvs[k]'(by rw [h.lenr]; exact hk)) := List.getElem?_eq_getElem _
  obtain ⟨h1, h2⟩ := h.box k _ m _ hb hm hr
  have h3 := h.fam.own k _ (rs m.recv) hr (by rw [List.getElem?_map, hm]; rfl)
  exact ⟨_, _, hb, hr, h1, h2, by simpa [rs] using h3⟩

theorem I8.mono {w0 w : World} {base c c' : Nat} {S : St} {pv : Value} {bs : List Nat} {rvs : List Value} {ts : List ByteArray} (h : I8 w0 w base c S pv bs rvs ts) (hc : c ≤ c') : I8 w0 w base c' S pv bs rvs ts :=
  ⟨h.below, h.size, h.msgs.mono hc, h.last.mono hc, h.lenb, h.box, h.apart, h.fam, h.probs, h.tlen⟩

/-- New blocks, draws. -/
theorem I8.new {w0 w w' : World} {base c : Nat} {S : St} {pv : Value} {bs : List Nat} {rvs : List Value} {ts : List ByteArray} (h : I8 w0 w base c S pv bs rvs ts) (hg : w.grownBy w' none) : I8 w0 w' base c S pv bs rvs ts := by
  have hs := h.size
  have hs' := hg.size
  refine ⟨h.below.grown hg (by omega) (fun k hk => by cases hk), by omega, h.msgs.kept hg (by simp), h.last.kept hg (by simp), h.lenb, fun j b s rv hb hs hr => ?_, h.apart, h.fam.new hg, h.probs.kept hg (by cases pv.ownBlock <;> simp), h.tlen⟩
  obtain ⟨h1, h2⟩ := h.box j b s rv hb hs hr
  exact ⟨h1, (hg.block b (Array.getElem?_eq_some_iff.1 h2).1 (by simp)).trans h2⟩

/-- A block that is no map is neither map's. -/
theorem ne_map {w : World} {g M : Nat} {cs : Array Value} {t : TypeId} {fr : Nat × Nat} (h : w.heap[g]? = some (.cells cs t fr)) (hM : ∃ es cl, w.heap[M]? = some (.map es cl)) : some M ≠ some g := fun e => by
  obtain ⟨es, cl, hM⟩ := hM
  injection e with e
  subst e
  rw [h] at hM
  cases hM

/-- A row is neither map's. -/
theorem ne_map_row {w : World} {base M : Nat} {e : TypeId} {size n : Nat} {v : Value} {xs : List Value} (h : w.ownsRow base e size v n xs) (hM : ∃ es cl, w.heap[M]? = some (.map es cl)) : some M ≠ v.ownBlock := fun h1 => by
  obtain ⟨cur, h2, _⟩ := owns_tag h h1.symm
  exact ne_map h2 hM rfl

/-- A message is sent: the box is block b, new; the map is told. -/
theorem I8.sent {w0 w w1 w2 : World} {base c : Nat} {S : St} {pv : Value} {bs : List Nat} {rvs : List Value} {ts : List ByteArray} (h : I8 w0 w base c S pv bs rvs ts) {b p : Nat} {l : Int} (hb : w.heap.size ≤ b) (hg : w.grownBy w1 none)
    (hbox : w1.heap[b]? = some (.cells #[.string (proc p), .int .i64 l, .slice none 0 0] 47 (0, 0))) (hm : PMap w2 base (c + 1) (bs ++ [b])) (hg2 : w1.grownBy w2 (some base)) :
    I8 w0 w2 base (c + 1) { S with sends := S.sends ++ [⟨p, l, []⟩] } pv (bs ++ [b]) (rvs ++ [.slice none 0 0]) ts := by
  have h1 := h.new hg
  have hs := h.size
  have hs1 := h1.size
  have hs2 := hg2.size
  obtain ⟨es, cl, hM⟩ := h1.msgs.block
  have hlt : ∀ (j b' : Nat), bs[j]? = some b' → b' < w.heap.size := fun j b' hj => by
    have hjl : j < S.sends.length := by rw [← h.lenb]; exact (List.getElem?_eq_some_iff.1 hj).1
    obtain ⟨b'', rv, e1, e2, _, e4, _⟩ := h.at (List.getElem?_eq_getElem hjl)
    rw [hj] at e1
    cases e1
    exact (Array.getElem?_eq_some_iff.1 e4).1
  have key : ∀ (j b' : Nat), (bs ++ [b])[j]? = some b' → (j < bs.length ∧ bs[j]? = some b') ∨ (j = bs.length ∧ b' = b) := fun j b' hj => by
    rw [List.getElem?_append] at hj
    split at hj
    · rename_i hlt; exact .inl ⟨hlt, hj⟩
    · have e1 := List.mem_of_getElem? hj
      have e2 := (List.getElem?_eq_some_iff.1 hj).1
      simp at e1 e2
      exact .inr ⟨by omega, e1⟩
  have hfar : ∀ (b' : Nat) (cs : Array Value) (t : TypeId) (fr : Nat × Nat), w1.heap[b']? = some (.cells cs t fr) → w2.heap[b']? = some (.cells cs t fr) := fun b' cs t fr hb' =>
    (hg2.block b' (Array.getElem?_eq_some_iff.1 hb').1 (fun e => ne_map hb' ⟨es, cl, hM⟩ e.symm)).trans hb'
  refine ⟨h1.below.grown hg2 (by omega) (fun k hk => by cases hk; exact Nat.le_refl _), by omega, hm, (h1.last.kept hg2 (by simp)).mono (Nat.le_succ _), by simp [h.lenb], fun j b' s rv hb' hs' hr => ?_, fun i j b' hi hj => ?_, ?_, ?_, h.tlen⟩
  · rcases key j b' hb' with ⟨hj, e1⟩ | ⟨rfl, rfl⟩
    · simp only at hs'
      rw [List.getElem?_append_left (by rw [← h.lenb]; exact hj)] at hs'
      rw [List.getElem?_append_left (by rw [h.lenr, ← h.lenb]; exact hj)] at hr
      obtain ⟨h3, h4⟩ := h1.box j b' s rv e1 hs' hr
      exact ⟨h3, hfar _ _ _ _ h4⟩
    · simp only at hs'
      rw [h.lenb, List.getElem?_append_right (Nat.le_refl _)] at hs'
      rw [h.lenb, ← h.lenr, List.getElem?_append_right (Nat.le_refl _)] at hr
      simp at hs' hr
      subst hs'; subst hr
      exact ⟨by omega, hfar _ _ _ _ hbox⟩
  · rcases key i b' hi with ⟨h3, h4⟩ | ⟨h3, h4⟩ <;> rcases key j b' hj with ⟨h5, h6⟩ | ⟨h5, h6⟩
    · exact h.apart i j b' h4 h6
    · have := hlt i b' h4; omega
    · have := hlt j b' h6; omega
    · omega
  · have := (h1.fam.far_map hM hg2).snoc
    simpa [rs] using this
  · exact h1.probs.kept hg2 (.inr (owns_far_map h1.probs hM))

/-- A message is received: its receivers' slice has grown, and the box is told. -/
theorem I8.got {w0 w w1 w2 : World} {base c : Nat} {S : St} {pv : Value} {bs : List Nat} {rvs : List Value} {ts : List ByteArray} (h : I8 w0 w base c S pv bs rvs ts) {k p : Nat} {m : Snd} (hm : S.sends[k]? = some m) {b : Nat} {rv v' : Value}
    (hb : bs[k]? = some b) (hr : rvs[k]? = some rv) (hg : w.grownBy w1 rv.ownBlock) (hown : w1.ownsRow base 9 1 v' (m.recv.length + 1) (rs m.recv ++ [.string (proc p)])) (hat : rv.ownBlock = v'.ownBlock ∨ v'.ownBlock = some w.heap.size)
    (hg2 : w1.grownBy w2 (some b)) (hbox : w2.heap[b]? = some (.cells #[.string (proc m.p), .int .i64 m.line, v'] 47 (0, 0))) :
    I8 w0 w2 base c ⟨S.sends.set k (m.got p), S.last, S.probs⟩ pv bs (rvs.set k v') ts := by
  obtain ⟨b', rv', e1, e2, hbb, hbox0, hrow⟩ := h.at hm
  rw [hb] at e1; cases e1
  rw [hr] at e2; cases e2
  have hs := h.size
  have hs1 := hg.size
  have hs2 := hg2.size
  have hk : k < S.sends.length := (List.getElem?_eq_some_iff.1 hm).1
  have hbox1 : w1.heap[b]? = some (.cells #[.string (proc m.p), .int .i64 m.line, rv] 47 (0, 0)) := (hg.block b (Array.getElem?_eq_some_iff.1 hbox0).1 (fun e => owns_far hrow hbox0 (by decide) e.symm)).trans hbox0
  have hx : (S.sends.map fun s => rs s.recv)[k]? = some (rs m.recv) := by rw [List.getElem?_map, hm]; rfl
  have hfam := h.fam.append (.string (proc p)) hr hx hg (by simpa [rs] using hown) hat
  have hrow' : ∀ k', rv.ownBlock = some k' → base ≤ k' := fun k' hk' => (hrow.lt k' hk').1
  have hM1 := h.msgs.kept hg (ne_map_row hrow h.msgs.block)
  have hL1 := h.last.kept hg (ne_map_row hrow h.last.block)
  have hP1 := h.probs.kept hg (owns_apart h.probs hrow (by decide))
  refine ⟨(h.below.grown hg (by omega) hrow').grown hg2 (by omega) (fun k' hk' => by cases hk'; exact hbb), by omega, hM1.kept hg2 (ne_map hbox1 hM1.block), hL1.kept hg2 (ne_map hbox1 hL1.block), by simp [h.lenb], fun j b' s rv' hb' hs' hr' => ?_, h.apart, ?_, ?_, h.tlen⟩
  · simp only at hs'
    by_cases hjk : j = k
    · subst hjk
      rw [List.getElem?_set_self hk] at hs'
      rw [List.getElem?_set_self (by rw [h.lenr]; exact hk)] at hr'
      rw [hb] at hb'
      cases hs'; cases hr'; cases hb'
      exact ⟨hbb, hbox⟩
    · rw [List.getElem?_set_ne (Ne.symm hjk)] at hs' hr'
      obtain ⟨h3, h4⟩ := h.box j b' s rv' hb' hs' hr'
      have h5 : w1.heap[b']? = some (.cells #[.string (proc s.p), .int .i64 s.line, rv'] 47 (0, 0)) := (hg.block b' (Array.getElem?_eq_some_iff.1 h4).1 (fun e => owns_far hrow h4 (by decide) e.symm)).trans h4
      refine ⟨h3, (hg2.block b' (Array.getElem?_eq_some_iff.1 h5).1 (fun e => ?_)).trans h5⟩
      cases e
      exact hjk (h.apart j k b hb' hb)
  · have := hfam.far hbox1 (by decide) hg2
    have e3 : (S.sends.map fun s => rs s.recv).set k (rs m.recv ++ [.string (proc p)]) = (S.sends.set k (m.got p)).map fun s => rs s.recv := by
      rw [List.map_set]
      simp [Snd.got, rs]
    rw [e3] at this
    exact this
  · exact hP1.kept hg2 (.inr (owns_far hP1 hbox1 (by decide)))

/-- A problem is told. -/
theorem I8.told {w0 w w1 : World} {base c : Nat} {S : St} {pv pv' : Value} {bs : List Nat} {rvs : List Value} {ts : List ByteArray} (h : I8 w0 w base c S pv bs rvs ts) {l : Int} {t : ByteArray} (hg : w.grownBy w1 pv.ownBlock)
    (hown : w1.ownsRow base 43 2 pv' (S.probs.length + 1) (pc S.probs ts ++ [.int .i64 l, .string t])) : I8 w0 w1 base c { S with probs := S.probs ++ [l] } pv' bs rvs (ts ++ [t]) := by
  have hs := h.size
  have hs1 := hg.size
  refine ⟨h.below.grown hg (by omega) (fun k' hk' => (h.probs.lt k' hk').1), by omega, h.msgs.kept hg (ne_map_row h.probs h.msgs.block), h.last.kept hg (ne_map_row h.probs h.last.block), h.lenb, fun j b' s rv' hb' hs' hr' => ?_, h.apart, h.fam.beside h.probs (by decide) hg, ?_, by simp [h.tlen]⟩
  · obtain ⟨h3, h4⟩ := h.box j b' s rv' hb' hs' hr'
    exact ⟨h3, (hg.block b' (Array.getElem?_eq_some_iff.1 h4).1 (fun e => owns_far h.probs h4 (by decide) e.symm)).trans h4⟩
  · simp only [List.length_append, List.length_cons, List.length_nil]
    rw [pc_snoc _ _ _ _ h.tlen]
    exact hown

/-- The channel's last message is told. -/
theorem I8.marked {w0 w w1 : World} {base c : Nat} {S : St} {pv : Value} {bs : List Nat} {rvs : List Value} {ts : List ByteArray} (h : I8 w0 w base c S pv bs rvs ts) {f t k : Nat} (hg : w.grownBy w1 (some (base + 1))) (hl : LMap w1 (base + 1) (c + 1) (S.mark f t k)) :
    I8 w0 w1 base (c + 1) { S with last := S.mark f t k } pv bs rvs ts := by
  have hs := h.size
  have hs1 := hg.size
  obtain ⟨es, cl, hL⟩ := h.last.block
  refine ⟨h.below.grown hg (by omega) (fun k' hk' => by cases hk'; omega), by omega, (h.msgs.kept hg (by simp)).mono (Nat.le_succ _), hl, h.lenb, fun j b' s rv' hb' hs' hr' => ?_, h.apart, h.fam.far_map hL hg, h.probs.kept hg (.inr (owns_far_map h.probs hL)), h.tlen⟩
  obtain ⟨h3, h4⟩ := h.box j b' s rv' hb' hs' hr'
  exact ⟨h3, (hg.block b' (Array.getElem?_eq_some_iff.1 h4).1 (fun e => ne_map h4 ⟨es, cl, hL⟩ e.symm)).trans h4⟩

end Go.Proofs.YbulkcqaoFmt
