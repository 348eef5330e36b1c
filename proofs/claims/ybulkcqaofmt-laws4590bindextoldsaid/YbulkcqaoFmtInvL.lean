/-
  THE RELATION OF THE LAW's FIRST LOOP, WITHOUT A WALK.
-/
import Derived.Test.YbulkcqaoFmtIdx
namespace Go.Proofs.YbulkcqaoFmt
open Go.RowKit Go.Deep Go.Maps Go.WideMaps

def ints (l : List Int) : List Value := l.map (Value.int .i64)
def nats (l : List Nat) : List Value := l.map fun (q : Nat) => Value.int .i64 (q : Int)

/-- The line of message k. -/
def St.lineOf (S : St) (k : Nat) : Int := ((S.sends[k]?).getD Snd.none).line

structure I3 (w0 w : World) (base : Nat) (S : St) (evs : List Ev) (sv ev pv : Value) (rvs : List Value) (hc mc : Array Value) : Prop where
  good : Good S
  below : Below base w0 w
  size : base + 2 ≤ w.heap.size
  has : w.heap[base]? = some (.cells hc 27 (0, 0))
  hasS : hc.size = 9
  hasA : ∀ a b, a < 3 → b < 3 → hc[a * 3 + b]? = some (.bool (S.last a b).isSome)
  max : w.heap[base + 1]? = some (.cells mc 29 (0, 0))
  maxS : mc.size = 9
  maxA : ∀ a b, a < 3 → b < 3 → ∃ z : Int, mc[a * 3 + b]? = some (.int .i64 z) ∧ ∀ k, S.last a b = some k → z = S.lineOf k
  sends : w.ownsRow base 37 4 sv S.sends.length (sc 0 S.sends rvs)
  events : w.ownsRow base 35 5 ev evs.length (ec evs)
  fam : Fam w base 3 (pv :: rvs) (ints S.probs :: S.sends.map fun s => nats s.recv)

theorem I3.lenr {w0 w : World} {base : Nat} {S : St} {evs : List Ev} {sv ev pv : Value} {rvs : List Value} {hc mc : Array Value} (h : I3 w0 w base S evs sv ev pv rvs hc mc) : rvs.length = S.sends.length := by
  have := h.fam.len
  simpa using this

theorem I3.at {w0 w : World} {base : Nat} {S : St} {evs : List Ev} {sv ev pv : Value} {rvs : List Value} {hc mc : Array Value} (h : I3 w0 w base S evs sv ev pv rvs hc mc) {k : Nat} {m : Snd} (hm : S.sends[k]? = some m) :
    ∃ rv, rvs[k]? = some rv ∧ w.ownsRow base 3 1 rv m.recv.length (nats m.recv) := by
  have hk : k < S.sends.length := (List.getElem?_eq_some_iff.1 hm).1
  have hr : rvs[k]? = some (rvs[k]'(by rw [h.lenr]; exact hk)) := List.getElem?_eq_getElem _
  have h3 := h.fam.own (k + 1) (rvs[k]'(by rw [h.lenr]; exact hk)) (nats m.recv) (by rw [List.getElem?_cons_succ]; exact hr) (by simp [hm])
  exact ⟨_, hr, by simpa [nats] using h3⟩

theorem I3.prow {w0 w : World} {base : Nat} {S : St} {evs : List Ev} {sv ev pv : Value} {rvs : List Value} {hc mc : Array Value} (h : I3 w0 w base S evs sv ev pv rvs hc mc) : w.ownsRow base 3 1 pv S.probs.length (ints S.probs) := by
  have h3 := h.fam.own 0 pv (ints S.probs) rfl rfl
  simpa [ints] using h3

/-- New blocks, draws; a block that none of it is. -/
theorem I3.new {w0 w w' : World} {base : Nat} {S : St} {evs : List Ev} {sv ev pv : Value} {rvs : List Value} {hc mc : Array Value} (h : I3 w0 w base S evs sv ev pv rvs hc mc) (hg : w.grownBy w' none) : I3 w0 w' base S evs sv ev pv rvs hc mc := by
  have hs := h.size
  have hs' := hg.size
  exact ⟨h.good, h.below.grown hg (by omega) (fun k hk => by cases hk), by omega, (hg.block base (by omega) (by simp)).trans h.has, h.hasS, h.hasA, (hg.block (base + 1) (by omega) (by simp)).trans h.max, h.maxS, h.maxA,
    h.sends.kept hg (by cases sv.ownBlock <;> simp), h.events.kept hg (by cases ev.ownBlock <;> simp), h.fam.new hg⟩

/-- An event is appended. -/
theorem I3.event {w0 w w1 : World} {base : Nat} {S : St} {evs : List Ev} {sv ev ev' pv : Value} {rvs : List Value} {hc mc : Array Value} (h : I3 w0 w base S evs sv ev pv rvs hc mc) {e : Ev} (hg : w.grownBy w1 ev.ownBlock)
    (hown : w1.ownsRow base 35 5 ev' (evs.length + 1) (ec evs ++ evC e)) : I3 w0 w1 base S (evs ++ [e]) sv ev' pv rvs hc mc := by
  have hs := h.size
  have hs' := hg.size
  refine ⟨h.good, h.below.grown hg (by omega) (fun k hk => (h.events.lt k hk).1), by omega, (hg.block base (by omega) (fun e => owns_far h.events h.has (by decide) e.symm)).trans h.has, h.hasS, h.hasA,
    (hg.block (base + 1) (by omega) (fun e => owns_far h.events h.max (by decide) e.symm)).trans h.max, h.maxS, h.maxA,
    h.sends.kept hg (owns_apart h.sends h.events (by decide)), ?_, h.fam.beside h.events (by decide) hg⟩
  rw [ec_snoc, List.length_append]
  exact hown

/-- A message is sent. -/
theorem I3.sent {w0 w w1 : World} {base : Nat} {S : St} {evs : List Ev} {sv sv' ev pv : Value} {rvs : List Value} {hc mc : Array Value} (h : I3 w0 w base S evs sv ev pv rvs hc mc) {p : Nat} {l : Int} (hp : p < 3) (hg : w.grownBy w1 sv.ownBlock)
    (hown : w1.ownsRow base 37 4 sv' (S.sends.length + 1) (sc 0 S.sends rvs ++ [.int .i64 p, .int .i64 l, .slice none 0 0, .string (name S.sends.length)])) :
    I3 w0 w1 base { S with sends := S.sends ++ [⟨p, l, []⟩] } evs sv' ev pv (rvs ++ [.slice none 0 0]) hc mc := by
  have hs := h.size
  have hs' := hg.size
  have hgood : Good { S with sends := S.sends ++ [⟨p, l, []⟩] } := by
    have := h.good.upd (e := ⟨p, 1, S.sends.length, l⟩) ⟨hp, .inr (.inl ⟨rfl, rfl⟩)⟩
    rwa [upd_kind1 rfl] at this
  refine ⟨hgood, h.below.grown hg (by omega) (fun k hk => (h.sends.lt k hk).1), by omega, (hg.block base (by omega) (fun e => owns_far h.sends h.has (by decide) e.symm)).trans h.has, h.hasS, h.hasA,
    (hg.block (base + 1) (by omega) (fun e => owns_far h.sends h.max (by decide) e.symm)).trans h.max, h.maxS, fun a b ha hb => ?_, ?_, h.events.kept hg (owns_apart h.events h.sends (by decide)), ?_⟩
  · obtain ⟨z, h1, h2⟩ := h.maxA a b ha hb
    refine ⟨z, h1, fun k hk => ?_⟩
    rw [h2 k hk]
    have := h.good.last a b k hk
    unfold St.lineOf
    simp only
    rw [List.getElem?_append_left this]
  · simp only [List.length_append, List.length_cons, List.length_nil]
    rw [sc_snoc _ _ _ _ _ h.lenr]
    simpa using hown
  · have := (h.fam.beside h.sends (by decide) hg).snoc
    simpa [nats] using this

/-- A message is received: its receivers' slice has grown, and the table of messages is told. -/
theorem I3.got {w0 w w1 : World} {base : Nat} {S : St} {evs : List Ev} {ev pv : Value} {rvs : List Value} {hc mc : Array Value} {gs n cap : Nat} (h : I3 w0 w base S evs (.slice (some ⟨gs, 0, none⟩) n cap) ev pv rvs hc mc) {k p : Nat} {m : Snd}
    (hm : S.sends[k]? = some m) (hp : p < 3) {rv v' : Value} (hr : rvs[k]? = some rv) (hg : w.grownBy w1 rv.ownBlock) (hown : w1.ownsRow base 3 1 v' (m.recv.length + 1) (nats m.recv ++ [.int .i64 p]))
    (hat : rv.ownBlock = v'.ownBlock ∨ v'.ownBlock = some w.heap.size) :
    I3 w0 (w1.setCell ⟨gs, k * 4 + 2, none⟩ v') base ⟨S.sends.set k (m.got p), S.last, S.probs⟩ evs (.slice (some ⟨gs, 0, none⟩) n cap) ev pv (rvs.set k v') hc mc := by
  have hs := h.size
  have hs1 := hg.size
  have hk : k < S.sends.length := (List.getElem?_eq_some_iff.1 hm).1
  obtain ⟨rv', e2, hrow⟩ := h.at hm
  rw [hr] at e2; cases e2
  have hg2 := grown_setCell w1 ⟨gs, k * 4 + 2, none⟩ v'
  have hs2 := hg2.size
  have hx : (ints S.probs :: S.sends.map fun s => nats s.recv)[k + 1]? = some (nats m.recv) := by simp [hm]
  have hfam := h.fam.append (.int .i64 p) (j := k + 1) (by simpa using hr) hx hg (by simpa [nats] using hown) hat
  have hb1 : w1.heap[base]? = some (.cells hc 27 (0, 0)) := (hg.block base (by omega) (fun e => owns_far hrow h.has (by decide) e.symm)).trans h.has
  have hb2 : w1.heap[base + 1]? = some (.cells mc 29 (0, 0)) := (hg.block (base + 1) (by omega) (fun e => owns_far hrow h.max (by decide) e.symm)).trans h.max
  have hS1 := h.sends.kept hg (owns_apart h.sends hrow (by decide))
  have hE1 := h.events.kept hg (owns_apart h.events hrow (by decide))
  obtain ⟨cur, htag, hgs⟩ := owns_tag hS1 (g := gs) rfl
  have hgood : Good ⟨S.sends.set k (m.got p), S.last, S.probs⟩ := by
    refine ⟨fun j s hj => ?_, fun a b k' hl => by have := h.good.last a b k' hl; simpa using this⟩
    simp only at hj
    by_cases hjk : j = k
    · subst hjk
      rw [List.getElem?_set_self hk] at hj
      cases hj
      have := h.good.p j m hm
      refine ⟨this.1, fun q hq => ?_⟩
      simp [Snd.got] at hq
      rcases hq with hq | rfl
      · exact this.2 q hq
      · exact hp
    · rw [List.getElem?_set_ne (Ne.symm hjk)] at hj
      exact h.good.p j s hj
  refine ⟨hgood, (h.below.grown hg (by omega) (fun k' hk' => (hrow.lt k' hk').1)).grown hg2 (by omega) (fun k' hk' => by cases hk'; exact hgs), by omega,
    (hg2.block base (by omega) (fun e => tag_ne hb1 htag (by decide) (by injection e))).trans hb1, h.hasS, h.hasA, (hg2.block (base + 1) (by omega) (fun e => tag_ne hb2 htag (by decide) (by injection e))).trans hb2, h.maxS, fun a b ha hb => ?_, ?_, ?_, ?_⟩
  · obtain ⟨z, h1, h2⟩ := h.maxA a b ha hb
    refine ⟨z, h1, fun k' hk' => ?_⟩
    rw [h2 k' hk']
    have hkl := h.good.last a b k' hk'
    obtain ⟨m2, hm2⟩ : ∃ m2, (S.sends.set k (m.got p))[k']? = some m2 := ⟨_, List.getElem?_eq_getElem (by simpa using hkl)⟩
    unfold St.lineOf
    rw [line_set hm hm2]
    simp only
    rw [hm2]
    rfl
  · have hn : n = S.sends.length := by
      rcases hS1.2 with ⟨e, _⟩ | ⟨_, _, _, e, _⟩
      · cases e
      · injection e
    subst hn
    have := owns_set hS1 (k * 4 + 2) v'
    rw [sc_set v' h.lenr hm (s' := m.got p) rfl rfl] at this
    simpa using this
  · exact hE1.kept hg2 (.inr (owns_far hE1 htag (by decide)))
  · have := hfam.far htag (by decide) hg2
    have e3 : (ints S.probs :: S.sends.map fun s => nats s.recv).set (k + 1) (nats m.recv ++ [.int .i64 p]) = ints S.probs :: (S.sends.set k (m.got p)).map fun s => nats s.recv := by
      rw [List.set_cons_succ, List.map_set]
      simp [Snd.got, nats]
    rw [e3] at this
    simpa using this

/-- A problem's line is noted. -/
theorem I3.told {w0 w w1 : World} {base : Nat} {S : St} {evs : List Ev} {sv ev pv pv' : Value} {rvs : List Value} {hc mc : Array Value} (h : I3 w0 w base S evs sv ev pv rvs hc mc) {l : Int} (hg : w.grownBy w1 pv.ownBlock)
    (hown : w1.ownsRow base 3 1 pv' (S.probs.length + 1) (ints S.probs ++ [.int .i64 l])) (hat : pv.ownBlock = pv'.ownBlock ∨ pv'.ownBlock = some w.heap.size) : I3 w0 w1 base { S with probs := S.probs ++ [l] } evs sv ev pv' rvs hc mc := by
  have hs := h.size
  have hs1 := hg.size
  have hrow := h.prow
  have hfam := h.fam.append (.int .i64 l) (j := 0) rfl rfl hg (by simpa [ints] using hown) hat
  refine ⟨⟨h.good.p, h.good.last⟩, h.below.grown hg (by omega) (fun k' hk' => (hrow.lt k' hk').1), by omega, (hg.block base (by omega) (fun e => owns_far hrow h.has (by decide) e.symm)).trans h.has, h.hasS, h.hasA,
    (hg.block (base + 1) (by omega) (fun e => owns_far hrow h.max (by decide) e.symm)).trans h.max, h.maxS, h.maxA, h.sends.kept hg (owns_apart h.sends hrow (by decide)), h.events.kept hg (owns_apart h.events hrow (by decide)), ?_⟩
  simpa [ints] using hfam

/-- A channel's last message is noted. -/
theorem I3.marked {w0 w : World} {base : Nat} {S : St} {evs : List Ev} {sv ev pv : Value} {rvs : List Value} {hc mc : Array Value} (h : I3 w0 w base S evs sv ev pv rvs hc mc) {f t k : Nat} (hf : f < 3) (ht : t < 3) (hk : k < S.sends.length) :
    I3 w0 ((w.setCell ⟨base, f * 3 + t, none⟩ (.bool true)).setCell ⟨base + 1, f * 3 + t, none⟩ (.int .i64 (S.lineOf k))) base { S with last := S.mark f t k } evs sv ev pv rvs (hc.setIfInBounds (f * 3 + t) (.bool true)) (mc.setIfInBounds (f * 3 + t) (.int .i64 (S.lineOf k))) := by
  have hs := h.size
  have g1 := grown_setCell w ⟨base, f * 3 + t, none⟩ (.bool true)
  have g2 := grown_setCell (w.setCell ⟨base, f * 3 + t, none⟩ (.bool true)) ⟨base + 1, f * 3 + t, none⟩ (.int .i64 (S.lineOf k))
  have s1 := g1.size
  have s2 := g2.size
  have h1 := heap_setCell_same w base (f * 3 + t) hc 27 (.bool true) h.has
  have h2 : (w.setCell ⟨base, f * 3 + t, none⟩ (.bool true)).heap[base + 1]? = some (.cells mc 29 (0, 0)) := (g1.block (base + 1) (by omega) (by simp)).trans h.max
  have hi : ∀ a b, a < 3 → b < 3 → a * 3 + b = f * 3 + t → a = f ∧ b = t := fun a b ha hb h => by omega
  refine ⟨⟨h.good.p, fun a b k' hl => ?_⟩, (h.below.grown g1 (by omega) (fun k' hk' => by cases hk'; exact Nat.le_refl _)).grown g2 (by omega) (fun k' hk' => by cases hk'; exact Nat.le_succ _), by omega,
    (g2.block base (by omega) (by simp)).trans h1, by simpa using h.hasS, fun a b ha hb => ?_, heap_setCell_same _ (base + 1) (f * 3 + t) mc 29 _ h2, by simpa using h.maxS, fun a b ha hb => ?_,
    (h.sends.kept g1 (.inr (owns_far h.sends h.has (by decide)))).kept g2 (.inr (owns_far (h.sends.kept g1 (.inr (owns_far h.sends h.has (by decide)))) h2 (by decide))),
    (h.events.kept g1 (.inr (owns_far h.events h.has (by decide)))).kept g2 (.inr (owns_far (h.events.kept g1 (.inr (owns_far h.events h.has (by decide)))) h2 (by decide))),
    (h.fam.far h.has (by decide) g1).far h2 (by decide) g2⟩
  · simp only [St.mark] at hl
    split at hl
    · cases hl; exact hk
    · exact h.good.last a b k' hl
  · rw [Array.getElem?_setIfInBounds]
    by_cases hab : a = f ∧ b = t
    · obtain ⟨rfl, rfl⟩ := hab
      rw [if_pos rfl, if_pos (by rw [h.hasS]; omega)]
      simp [St.mark]
    · rw [if_neg (fun e => hab (hi a b ha hb e.symm)), h.hasA a b ha hb]
      simp only [St.mark, if_neg hab]
  · rw [Array.getElem?_setIfInBounds]
    by_cases hab : a = f ∧ b = t
    · obtain ⟨rfl, rfl⟩ := hab
      rw [if_pos rfl, if_pos (by rw [h.maxS]; omega)]
      refine ⟨S.lineOf k, rfl, fun k' hk' => ?_⟩
      simp [St.mark] at hk'
      subst hk'
      rfl
    · rw [if_neg (fun e => hab (hi a b ha hb e.symm))]
      obtain ⟨z, h3, h4⟩ := h.maxA a b ha hb
      refine ⟨z, h3, fun k' hk' => ?_⟩
      simp only [St.mark, if_neg hab] at hk'
      exact h4 k' hk'

end Go.Proofs.YbulkcqaoFmt
