/-
  THE PLAIN MODEL: what a list of events leaves: the messages sent, the last accepted message of each channel, the problems' lines. The cells of such lists in memory.
-/
import Derived.Test.YbulkcqaoFmtMem
namespace Go.Proofs.YbulkcqaoFmt
open Go.RowKit Go.Deep

/-- An event: its process, its kind (0 local, 1 send, 2 receipt), the number of its message, its line. -/
structure Ev where
  p : Nat
  kind : Nat
  k : Nat
  line : Int

/-- A message sent: its sender, the line of its send, its receivers. -/
structure Snd where
  p : Nat
  line : Int
  recv : List Nat
def Snd.none : Snd := ⟨0, 0, []⟩

structure St where
  sends : List Snd
  last : Nat → Nat → Option Nat
  probs : List Int

def St.start : St := ⟨[], fun _ _ => none, []⟩

def Snd.got (s : Snd) (p : Nat) : Snd := { s with recv := s.recv ++ [p] }

/-- A receipt by p of message m (its number k), line l: is it late? -/
def St.late (S : St) (m : Snd) (p : Nat) : Bool :=
  match S.last m.p p with
  | some b => decide (m.line < ((S.sends[b]?).getD Snd.none).line)
  | none => false

def St.mark (S : St) (f t k : Nat) : Nat → Nat → Option Nat := fun a b => if a = f ∧ b = t then some k else S.last a b

def St.got (S : St) (k p : Nat) (l : Int) (m : Snd) : St :=
  if S.late m p then ⟨S.sends.set k (m.got p), S.last, S.probs ++ [l]⟩
  else ⟨S.sends.set k (m.got p), S.mark m.p p k, S.probs⟩

def St.upd (S : St) (e : Ev) : St :=
  if e.kind = 0 then S
  else if e.kind = 1 then { S with sends := S.sends ++ [⟨e.p, e.line, []⟩] }
  else match S.sends[e.k]? with
    | some m => S.got e.k e.p e.line m
    | none => S

/-- An event that may follow. -/
def Ok (S : St) (e : Ev) : Prop := e.p < 3 ∧ ((e.kind = 0) ∨ (e.kind = 1 ∧ e.k = S.sends.length) ∨ (e.kind = 2 ∧ e.k < S.sends.length))

def run (evs : List Ev) : St := evs.foldl St.upd St.start
theorem run_snoc (evs : List Ev) (e : Ev) : run (evs ++ [e]) = (run evs).upd e := by simp [run, List.foldl_append]

/-- What holds of every state. -/
structure Good (S : St) : Prop where
  p : ∀ (j : Nat) (s : Snd), S.sends[j]? = some s → s.p < 3 ∧ ∀ q ∈ s.recv, q < 3
  last : ∀ a b k, S.last a b = some k → k < S.sends.length

theorem Good.start : Good St.start := ⟨fun j s h => by simp [St.start] at h, fun a b k h => by simp [St.start] at h⟩

theorem Good.upd {S : St} {e : Ev} (h : Good S) (ho : Ok S e) : Good (S.upd e) := by
  obtain ⟨hp, h0 | ⟨h1, hk⟩ | ⟨h2, hk⟩⟩ := ho
  · unfold St.upd; rw [if_pos h0]; exact h
  · unfold St.upd
    rw [if_neg (by omega), if_pos h1]
    refine ⟨fun j s hj => ?_, fun a b k hl => by have := h.last a b k hl; simp; omega⟩
    simp only at hj
    rw [List.getElem?_append] at hj
    split at hj
    · exact h.p j s hj
    · have := List.mem_of_getElem? hj
      simp at this
      subst this
      exact ⟨hp, fun q hq => by cases hq⟩
  · unfold St.upd
    rw [if_neg (by omega), if_neg (by omega), List.getElem?_eq_getElem hk]
    have hm := h.p e.k _ (List.getElem?_eq_getElem hk)
    have hs : ∀ (j : Nat) (s : Snd), (S.sends.set e.k (Snd.got (S.sends[e.k]) e.p))[j]? = some s → s.p < 3 ∧ ∀ q ∈ s.recv, q < 3 := by
      intro j s hj
      by_cases hjk : j = e.k
      · subst hjk
        rw [List.getElem?_set_self hk] at hj
        cases hj
        refine ⟨hm.1, fun q hq => ?_⟩
        simp [Snd.got] at hq
        rcases hq with hq | rfl
        · exact hm.2 q hq
        · exact hp
      · rw [List.getElem?_set_ne (Ne.symm hjk)] at hj
        exact h.p j s hj
    simp only [St.got]
    split
    · exact ⟨hs, fun a b k hl => by have := h.last a b k hl; simpa using this⟩
    · refine ⟨hs, fun a b k hl => ?_⟩
      simp only [St.mark] at hl
      split at hl
      · cases hl; simpa using hk
      · have := h.last a b k hl; simpa using this

/-- A list of events each of which may follow. -/
def Wf (evs : List Ev) : Prop := ∀ (i : Nat) (e : Ev), evs[i]? = some e → Ok (run (evs.take i)) e

theorem Wf.nil : Wf [] := fun i e h => by simp at h
theorem Wf.snoc {evs : List Ev} {e : Ev} (h : Wf evs) (ho : Ok (run evs) e) : Wf (evs ++ [e]) := by
  intro i x hx
  rw [List.getElem?_append] at hx
  split at hx
  · rename_i hlt
    rw [List.take_append_of_le_length (by omega)]
    exact h i x hx
  · rename_i hlt
    have h1 := List.mem_of_getElem? hx
    have h2 := (List.getElem?_eq_some_iff.1 hx).1
    simp at h1 h2
    subst h1
    have : i = evs.length := by omega
    subst this
    simpa using ho
theorem Wf.good {evs : List Ev} (h : Wf evs) : ∀ i, i ≤ evs.length → Good (run (evs.take i)) := by
  intro i
  induction i with
  | zero => intro _; simpa [run] using Good.start
  | succ i ih =>
    intro hi
    have hx : evs[i]? = some evs[i] := List.getElem?_eq_getElem (by omega)
    rw [List.take_add_one, hx, Option.toList_some, run_snoc]
    exact (ih (by omega)).upd (h i _ hx)

theorem run_take {evs : List Ev} {i : Nat} {e : Ev} (hx : evs[i]? = some e) : run (evs.take (i + 1)) = (run (evs.take i)).upd e := by
  rw [List.take_add_one, hx, Option.toList_some, run_snoc]

theorem upd_kind0 {S : St} {e : Ev} (h : e.kind = 0) : S.upd e = S := by unfold St.upd; rw [if_pos h]
theorem upd_kind1 {S : St} {e : Ev} (h : e.kind = 1) : S.upd e = { S with sends := S.sends ++ [⟨e.p, e.line, []⟩] } := by unfold St.upd; rw [if_neg (by omega), if_pos h]
theorem upd_kind2 {S : St} {e : Ev} (h : e.kind = 2) {m : Snd} (hm : S.sends[e.k]? = some m) : S.upd e = S.got e.k e.p e.line m := by unfold St.upd; rw [if_neg (by omega), if_neg (by omega), hm]

/-! ### in memory -/
def msg (e : Ev) : ByteArray := if e.kind = 0 then ByteArray.empty else name e.k

/-- The cells of an event. -/
def evC (e : Ev) : List Value := [.string (proc e.p), .int .i64 e.kind, .string (msg e), .string ⟨#[120]⟩, .int .i64 e.line]
def ec (evs : List Ev) : List Value := evs.flatMap evC
theorem ec_length (evs : List Ev) : (ec evs).length = evs.length * 5 := by
  induction evs with
  | nil => rfl
  | cons e r ih => simp only [ec, List.flatMap_cons, List.length_append] at *; rw [ih]; simp [evC]; omega
theorem ec_snoc (evs : List Ev) (e : Ev) : ec (evs ++ [e]) = ec evs ++ evC e := by simp [ec, List.flatMap_append]
theorem ec_at {evs : List Ev} {i : Nat} {e : Ev} (hx : evs[i]? = some e) (f : Nat) (hf : f < 5) : (ec evs)[i * 5 + f]? = (evC e)[f]? := by
  induction evs generalizing i with
  | nil => simp at hx
  | cons x r ih =>
    simp only [ec, List.flatMap_cons]
    have hl : (evC x).length = 5 := rfl
    cases i with
    | zero =>
      simp at hx; subst hx
      rw [List.getElem?_append_left (by rw [hl]; omega), Nat.zero_mul, Nat.zero_add]
    | succ i =>
      rw [List.getElem?_append_right (by rw [hl]; omega), hl, show (i + 1) * 5 + f - 5 = i * 5 + f by omega]
      exact ih (by simpa using hx)

/-- The cells of the messages sent, from number k on. -/
def sc (k : Nat) : List Snd → List Value → List Value
  | s :: ss, v :: vs => [.int .i64 s.p, .int .i64 s.line, v, .string (name k)] ++ sc (k + 1) ss vs
  | _, _ => []
theorem sc_length (ss : List Snd) : ∀ (k : Nat) (vs : List Value), vs.length = ss.length → (sc k ss vs).length = ss.length * 4 := by
  induction ss with
  | nil => intro k vs _; simp [sc]
  | cons s r ih =>
    intro k vs h
    cases vs with
    | nil => simp at h
    | cons v vs => simp only [sc, List.length_append]; rw [ih (k + 1) vs (by simpa using h)]; simp; omega
theorem sc_snoc (ss : List Snd) (s : Snd) (v : Value) : ∀ (k : Nat) (vs : List Value), vs.length = ss.length → sc k (ss ++ [s]) (vs ++ [v]) = sc k ss vs ++ [.int .i64 s.p, .int .i64 s.line, v, .string (name (k + ss.length))] := by
  induction ss with
  | nil =>
    intro k vs h
    have : vs = [] := List.eq_nil_of_length_eq_zero (by simpa using h)
    subst this
    simp [sc]
  | cons x r ih =>
    intro k vs h
    cases vs with
    | nil => simp at h
    | cons y vs =>
      have := ih (k + 1) vs (by simpa using h)
      simp only [List.cons_append, sc, this, List.append_assoc, List.length_cons, show k + 1 + r.length = k + (r.length + 1) by omega]
theorem sc_at {ss : List Snd} : ∀ {k : Nat} {vs : List Value} {j : Nat} {s : Snd} {v : Value}, ss[j]? = some s → vs[j]? = some v → ∀ f, f < 4 → (sc k ss vs)[j * 4 + f]? = [Value.int .i64 s.p, .int .i64 s.line, v, .string (name (k + j))][f]? := by
  induction ss with
  | nil => intro k vs j s v hs; simp at hs
  | cons x r ih =>
    intro k vs j s v hs hv f hf
    cases vs with
    | nil => simp at hv
    | cons y vs =>
      simp only [sc]
      cases j with
      | zero =>
        simp at hs hv; subst hs; subst hv
        rw [List.getElem?_append_left (by simp; omega), Nat.zero_mul, Nat.zero_add]
        rfl
      | succ j =>
        rw [List.getElem?_append_right (by simp; omega), show (j + 1) * 4 + f - [Value.int .i64 x.p, .int .i64 x.line, y, .string (name k)].length = j * 4 + f by simp; omega,
          ih (k := k + 1) (by simpa using hs) (by simpa using hv) f hf, show k + 1 + j = k + (j + 1) by omega]
/-- A message's receivers' slice is written. -/
theorem sc_set {ss : List Snd} : ∀ {k : Nat} {vs : List Value} {j : Nat} {s s' : Snd} (v : Value), vs.length = ss.length → ss[j]? = some s → s'.p = s.p → s'.line = s.line → (sc k ss vs).set (j * 4 + 2) v = sc k (ss.set j s') (vs.set j v) := by
  induction ss with
  | nil => intro k vs j s s' v _ hs; simp at hs
  | cons x r ih =>
    intro k vs j s s' v hl hs h1 h2
    cases vs with
    | nil => simp at hl
    | cons y vs =>
      cases j with
      | zero =>
        simp at hs; subst hs
        simp [sc, h1, h2]
      | succ j =>
        have := ih (k := k + 1) (vs := vs) (j := j) (s := s) (s' := s') v (by simpa using hl) (by simpa using hs) h1 h2
        simp only [List.set_cons_succ, sc, ← this]
        rw [List.set_append_right _ _ (by simp; omega)]
        congr 2
        simp
        omega

end Go.Proofs.YbulkcqaoFmt
